/-
  The walk of writeMapStringInt8.
-/
import Derived.Test.YtaniafohcaiedaaDoorMp
import Derived.Test.YtaniafohcaiedaaDoorZt
import Derived.Sort.KeysCollected
import Derived.Sort.OwnSorted
import Derived.Maps.RangeWalk
import Derived.Maps.OwnSet
import Derived.OwnWalk
set_option linter.unusedVariables false
set_option linter.unusedSimpArgs false
namespace Go.Proofs.YtaniafohcaiedaaDoor.M
open Go.RowKit Go.Proofs.YtaniafohcaiedaaDoor.K Go.Proofs.YtaniafohcaiedaaDoorW.PrintWords Go.Maps Go.Sort Go.Proofs.YtaniafohcaiedaaDoor.Z Go.Proofs.YtaniafohcaiedaaDoor.Zt

theorem info_str : (Tryd.prog.info? 9).map (fun i => (i.zero, i.size, i.bytes)) = some (some (.string ⟨#[]⟩), 1, 16) := by kernel_rfl
/-- What a map's entries are written as. -/
def bodyL (D : DataW Unit) (ks : List (List UInt8)) : List Int := ks.flatMap fun x => Z.leB x.length 8 ++ bytesOf (mkS x) ++ Z.leB (valAt D x) 1
def mapBytes (D : DataW Unit) : List Int := Z.leB ((strKeys D).mergeSort Go.leB).length 8 ++ bodyL D ((strKeys D).mergeSort Go.leB)
theorem mkS_size (x : List UInt8) : (mkS x).size = x.length := by simp [mkS, ByteArray.size]
theorem bodyL_snoc (D : DataW Unit) (ks : List (List UInt8)) (x : List UInt8) : bodyL D (ks ++ [x]) = bodyL D ks ++ Z.leB x.length 8 ++ bytesOf (mkS x) ++ Z.leB (valAt D x) 1 := by simp [bodyL, List.flatMap_append]
theorem bodyL_len (D : DataW Unit) : ∀ ks : List (List UInt8), (∀ x ∈ ks, x.length ≤ 60) → (bodyL D ks).length ≤ 69 * ks.length
  | [], _ => by simp [bodyL]
  | x :: r, h => by
    have h1 := bodyL_len D r (fun y hy => h y (by simp [hy]))
    have h2 := h x (by simp)
    have e : bodyL D (x :: r) = (Z.leB x.length 8 ++ bytesOf (mkS x) ++ Z.leB (valAt D x) 1) ++ bodyL D r := by simp [bodyL]
    rw [e, List.length_append, List.length_append, List.length_append, Z.leB_length, Z.leB_length, bytesOf_length, mkS_size, List.length_cons]
    omega
theorem map_others {w w1 : World} {b bb n : Nat} {D : DataW Unit} {R : Value → Option (DataW Unit × List MemPlace)} (h : w.ownsMap Tryd.prog 9 R b n D) (ho : Lib.OthersKept U8 (some bb) w w1) (hne : b ≠ bb) : w1.ownsMap Tryd.prog 9 R b n D := by
  obtain ⟨es, clock, h1, r⟩ := h
  exact ⟨es, clock, ho b _ h1 (by simpa using hne) (by simp), r⟩
theorem others_below {w w1 : World} {bb : Nat} (hb : Below w.heap.size w w1) : Lib.OthersKept U8 (some bb) w w1 := fun i o hi _ _ => (hb.block i (lt_of_heap hi)).trans hi
theorem blk_others {w w1 : World} {bb g : Nat} {cs : Array Value} {t : TypeId} (h : w.heap[g]? = some (.cells cs t (0, 0))) (ho : Lib.OthersKept U8 (some bb) w w1) (hne : g ≠ bb) (ht : t ≠ U8) : w1.heap[g]? = some (.cells cs t (0, 0)) :=
  ho g _ h (by simpa using hne) (fun c fz e => by injection e with e1 e2; exact ht e2)
theorem key_at {w : World} {g : Nat} {cur : Array Value} {t : TypeId} {KL : List (List UInt8)} (h : w.heap[g]? = some (.cells cur t (0, 0))) (ht : cur.toList.take KL.length = KL.map encStr) (k : Nat) (hk : k < KL.length) : w.cell? ((⟨g, 0, none⟩ : Addr).add k) = some (.string (mkS KL[k])) := by
  rw [add_plain, cell_of_heap h]
  have e := congrArg (fun l => l[k]?) ht
  simp only [List.getElem?_take, if_pos hk, List.getElem?_map, List.getElem?_eq_getElem hk, Option.map_some] at e
  rw [← Array.getElem?_toList]
  exact e
def WrOut (B bb : Nat) (xs ys : List Int) (w : World) (e : Ending) (w' : World) : Prop := e = .returned (.tuple #[.int .i64 (ys.length : Nat), .nilIface]) ∧ Buf B bb (xs ++ ys) w' ∧ Below B w w' ∧ Lib.OthersKept U8 (some bb) w w'

set_option maxHeartbeats 4000000 in
set_option maxRecDepth 5000 in
theorem writeMap_any (B bb : Nat) (xs : List Int) (b n : Nat) (D : DataW Unit) (w : World) (hbuf : Buf B bb xs w) (hB : B ≤ w.heap.size) (hbne : b ≠ bb) (hown : w.ownsMap Tryd.prog 9 (plainElem Tryd.prog 74) b n D) (hmax : Maps.size D ≤ 30) (hkl : ∀ x ∈ strKeys D, x.length ≤ 60) (hl : xs.length + 3000 ≤ 140737488355328) :
    Calls Tryd.prog 78 #[.iface 82 (.pointer (some ⟨bb, 0, none⟩)), .map (some b)] w (WrOut B bb xs (mapBytes D) w) := by
  have HBUF := Lib.hid hbuf
  have hbblt : bb < w.heap.size := hbuf.lt
  have HKL := Lib.hid hkl
  clear hbuf hkl
  obtain ⟨i0, hi, hz0, hz1, hz2⟩ := info_parts info_str
  have hbl := hown.lt
  go_enter Tryd.func78, Tryd.ntmps78
  go_wp2_with (first
    | (at_len; refine wpList_len_own _ rfl _ 110 rfl 9 74 Tryd.underlying110 _ b n _ rfl hown ?_)
    | (at_make; refine wpList_make_own _ rfl _ _ 45 rfl w.heap.size 9 i0 (.string ⟨#[]⟩) 1 Tryd.underlying45 hi hz0 hz1 _ _ _ (Maps.size D) rfl rfl rfl (by rw [hz2]; omega) (by unfold maxLen; omega) (Nat.le_refl _) ?_; intro w1 hrow1 hg1)
    | (at_range; refine wpList_range_own _ rfl _ 110 rfl 9 74 law Tryd.underlying110 _ b n _ rfl (hown.kept hg1 (by simp)) ?_; intro w0 hrg0 hg0 hs0)
    | go_in)
  go_frame
  go_loopw [6] (fun v wr => ∃ (left : Lit → Bool) (cnt : Nat) (ss : List (List UInt8)), wr.ranges Tryd.prog 9 (plainElem Tryd.prog 74) b w1.heap.size n D left cnt ∧ ss.length + cnt ≤ Maps.size D ∧
      wr.ownsRow w.heap.size 9 1 v ss.length (ss.map encStr) ∧ v ≠ .slice none 0 0 ∧ Collected D left ss ∧ Below w.heap.size w wr)
    (fun _ wr => wr.rangeLeft b w1.heap.size)
  case atStart =>
    exact ⟨_, _, [], hrg0, by simp, hrow1.kept hg0 (Or.inr (by simp [Value.ownBlock])), by simp, Collected.start D,
      ((Below.refl _ _).grown hg1 (Nat.le_refl _) (fun j hj => by cases hj)).grown hg0 hg1.size (fun j hj => by cases hj)⟩
  case round =>
    obtain ⟨left, cnt, ss, hrg, hcs, hrow, hnn, hC, hnx⟩ := hrel
    go_wp2_with (first
      | (at_next; refine wpList_next_ranges _ rfl _ rfl 9 law (plainElem Tryd.prog 74) encStr (Value.int .i8) (fun key kl hk => by obtain ⟨x, hx, _⟩ := Maps.keyOf_str Tryd.underlying9 hk; exact ⟨x, hx⟩) (fun v y hv => by obtain ⟨c, rfl, _⟩ := plainElem_int_inv Tryd.underlying74 hv; exact ⟨c, rfl⟩) b w1.heap.size n _ _ _ rfl hrg ?_ ?_)
      | go_in)
    · intro hc0 hl0
      have hperm := hC.perm hown law Tryd.underlying9 hl0
      rcases hrow.2 with ⟨hnil, _⟩ | ⟨g, cap, cur, rfl, hbase, hb, h1, h2, h3, h4⟩
      · exact absurd hnil hnn
      have hH : Holds encStr wr g 0 ss.toArray := holds_of_block hb (by simpa using h4)
      have hgl : g < wr.heap.size := (Array.getElem?_eq_some_iff.1 hb).1
      have hc := AnyM.slices_Sort_string Tryd.sort85 g 0 cap ss wr hH hgl (by omega)
      have hml := mergeSort_of_perm hperm
      obtain ⟨KL, hKL⟩ : ∃ KL, (strKeys D).mergeSort Go.leB = KL := ⟨_, rfl⟩
      have hKlen : KL.length = ss.length := by rw [← hKL, ← hml, List.length_mergeSort]
      have hN30 : KL.length ≤ 30 := by omega
      have hMB : mapBytes D = Z.leB KL.length 8 ++ bodyL D KL := by unfold mapBytes; rw [hKL]
      have hK60 : ∀ x ∈ KL, x.length ≤ 60 := fun x hx => HKL.out x (by rw [← hKL] at hx; exact List.mem_mergeSort.1 hx)
      go_wp2_with fail
      refine hc.mono ?_
      rintro e w' ⟨rfl, nn, os, rfl⟩
      have hsr := ownsRow_sorted (n := nn) (os := os) (ts := ss.mergeSort fun x y => decide (x ≤ y)) (by simp) hbase hb h1 h2 h3
      have hw4 : Below w.heap.size w _ := hnx.grown (grownBy_sorted (n := nn) (os := os) (ss.mergeSort fun x y => decide (x ≤ y)).toArray) hnx.size (fun j hj => by cases hj; exact hbase)
      generalize grow (putRow encStr (Sort.ahead wr nn) g 0 (ss.mergeSort fun x y => decide (x ≤ y)).toArray) os = w4 at hsr hw4 ⊢
      have hsr2 : w4.ownsRow w.heap.size 9 1 (.slice (some ⟨g, 0, none⟩) ss.length cap) ss.length (KL.map encStr) := by rw [← hKL, ← hml]; exact hsr
      obtain ⟨cur4, hblk, htk⟩ : ∃ cur4, w4.heap[g]? = some (.cells cur4 9 (0, 0)) ∧ cur4.toList.take KL.length = KL.map encStr := by
        rcases hsr2.2 with ⟨he, _⟩ | ⟨g', cap', cur', he, _, hh, _, _, _, ht⟩
        · cases he
        · cases he
          exact ⟨cur', hh, by rw [hKlen]; simpa using ht⟩
      have hbuf4 : Buf B bb xs w4 := buf_keeps HBUF.out (S := fun i => w.heap.size ≤ i) (Keeps.of_below hw4) (by omega) (fun i hi hs => by omega)
      have hmap4 := map_below hown hw4
      have hB4 : B ≤ w4.heap.size := Nat.le_trans hB hw4.size
      have hgb : g ≠ bb := by omega
      have HBL4 := Lib.hid (hw4.mono hB)
      have HO4 := Lib.hid (others_below (bb := bb) hw4)
      have HBUF4 := Lib.hid hbuf4
      have HMAP4 := Lib.hid hmap4
      have HBLK := Lib.hid hblk
      have HTK := Lib.hid htk
      have HMB := Lib.hid hMB
      have HK60 := Lib.hid hK60
      rw [← hKlen]
      clear hsr hsr2 hw4 hbuf4 hmap4 hblk htk hMB hK60 hKL hml hperm hc hH hgl hb h1 h2 h3 h4 hrow hnn hC hnx hrg hcs hc0 hl0 hrow1 hg1 hrg0 hg0 hs0 hown hKlen
      obtain ⟨N, hN⟩ : ∃ N, KL.length = N := ⟨_, rfl⟩
      have HN := Lib.hid hN
      rw [hN] at hN30 ⊢
      clear hN
      go_wp2_with fail
      refine (write_i64 B bb xs (N : Int) w4 HBUF4.out hB4 (by omega)).mono ?_
      rintro e w5 ⟨rfl, hb5, hl5, ho5⟩
      have HB5 := Lib.hid hb5
      have HL5 := Lib.hid hl5
      have HO5 := Lib.hid ho5
      clear hb5 hl5 ho5
      go_wp2_with fail
      refine (size_i64 (N : Int) w5).mono ?_
      rintro e w5' ⟨rfl, rfl⟩
      go_wp2_with fail
      obtain ⟨ad, had⟩ : ∃ ad, (⟨g, 0, none⟩ : Addr) = ad := ⟨_, rfl⟩
      rw [had]
      have HAD := Lib.hid had
      clear had
      go_loopw [48, 4, 5] (fun i n er wr => ∃ k : Nat, k ≤ N ∧ i = .int .i64 k ∧ er = .nilIface ∧ n = .int .i64 (8 + (bodyL D (KL.take k)).length : Nat) ∧ Hid (Buf B bb (xs ++ Z.leB (N : Int) 8 ++ bodyL D (KL.take k)) wr) ∧ Hid (Below B w4 wr) ∧ Hid (Lib.OthersKept U8 (some bb) w4 wr)) (fun i _ _ _ => N - (intOf i).toNat)
      case atStart => exact ⟨0, Nat.zero_le _, rfl, rfl, rfl, Lib.hid (by simpa [bodyL] using HB5.out), HL5, HO5⟩
      case round =>
        clear HB5 HL5 HO5 HBUF4
        obtain ⟨k, hk, rfl, rfl, rfl, hBr, hLr, hOr⟩ := hrel
        have hsr : B ≤ wr.heap.size := Nat.le_trans hB4 hLr.out.size
        have hbl := bodyL_len D (KL.take k) (fun x hx => HK60.out x (List.mem_of_mem_take hx))
        rw [List.length_take, Nat.min_eq_left (by rw [HN.out]; exact hk)] at hbl
        by_cases hlt : k < N
        · have hkK : k < KL.length := by rw [HN.out]; exact hlt
          have hkey0 := key_at (blk_others HBLK.out hOr.out hgb (by decide)) HTK.out k hkK
          have hx60 := HK60.out KL[k] (List.getElem_mem _)
          have HT := Lib.hid (show KL.take (k + 1) = KL.take k ++ [KL[k]] by rw [List.take_succ_eq_append_getElem hkK])
          generalize KL[k] = x at hkey0 hx60 HT
          rw [HAD.out] at hkey0
          have hxs := mkS_size x
          obtain ⟨s, hs⟩ : ∃ s, mkS x = s := ⟨_, rfl⟩
          have hkey : keyOf Tryd.prog 9 (.string s) = some (.string x) := by
            rw [← hs]
            have := WideMaps.keyOf_string_mk (P := Tryd.prog) (k := 9) Tryd.underlying9 (s := mkS x) (by rw [mkS_size]; unfold maxLen; omega)
            simpa [mkS] using this
          rw [hs] at hkey0 hxs
          have hbs := bodyL_snoc D (KL.take k) x
          rw [hs] at hbs
          obtain ⟨M, hM⟩ : ∃ M, (bodyL D (KL.take k)).length = M := ⟨_, rfl⟩
          rw [hM] at hbl ⊢
          obtain ⟨X, hX⟩ : ∃ X, x.length = X := ⟨_, rfl⟩
          rw [hX] at hxs hx60 hbs
          have HBS := Lib.hid hbs
          have HM := Lib.hid hM
          clear hs hbs hM hkK
          go_wp2_with fail
          refine (write_i64 B bb _ (X : Int) wr hBr.out hsr (by simp only [List.length_append, Z.leB_length, HM.out]; omega)).mono ?_
          rintro e w6a ⟨rfl, hb6, hl6, ho6⟩
          have HB6 := Lib.hid hb6
          have HL6 := Lib.hid (hLr.out.trans hl6)
          have HO6 := Lib.hid (hOr.out.trans ho6)
          have hs6 : B ≤ w6a.heap.size := Nat.le_trans hB4 HL6.out.size
          clear hb6 hl6 ho6 hkey0
          go_wp2_with fail
          refine (size_i64 (X : Int) w6a).mono ?_
          rintro e w6 ⟨rfl, rfl⟩
          go_wp2_with fail
          refine (text_any B bb _ s w6 HB6.out hs6 (by simp only [List.length_append, Z.leB_length, HM.out]; omega)).mono ?_
          rintro e w7 ⟨rfl, hb7, hl7, ho7⟩
          rw [hxs]
          have HB7 := Lib.hid hb7
          have HL7 := Lib.hid (HL6.out.trans hl7)
          have HO7 := Lib.hid (HO6.out.trans ho7)
          have hs7 : B ≤ w7.heap.size := Nat.le_trans hB4 HL7.out.size
          clear hb7 hl7 ho7
          have HM7 := Lib.hid (map_others HMAP4.out HO7.out hbne)
          go_wp2_with (first
            | (at_lookup; refine wpList_lookup_own_int _ rfl _ _ 110 rfl 9 74 .i8 law Tryd.underlying110 Tryd.underlying74 (zeroE _) b n D rfl HM7.out _ _ rfl hkey ?_; intro c8 hat hwc; have HAT := Lib.hid hat; have HWC := Lib.hid hwc; clear hat hwc)
            | fail)
          refine (write_i8 B bb _ c8 w7 HB7.out hs7 (by simp only [List.length_append, Z.leB_length, HM.out, bytesOf_length, hxs]; omega)).mono ?_
          rintro e w8a ⟨rfl, hb8, hl8, ho8⟩
          have HB8 := Lib.hid hb8
          have HL8 := Lib.hid (HL7.out.trans hl8)
          have HO8 := Lib.hid (HO7.out.trans ho8)
          clear hb8 hl8 ho8
          have hlen9 : (bodyL D (KL.take (k + 1))).length = M + 8 + X + 1 := by
            rw [HT.out, HBS.out, List.length_append, List.length_append, List.length_append, HM.out, Z.leB_length, Z.leB_length, bytesOf_length, hxs]
          have HB9 := Lib.hid (show Buf B bb (xs ++ Z.leB (N : Int) 8 ++ bodyL D (KL.take (k + 1))) w8a by
            have hv : valAt D x = c8 := by unfold valAt; rw [HAT.out]
            have h9 := HB8.out
            rw [HT.out, HBS.out, hv]
            simpa [List.append_assoc] using h9)
          have HLEN := Lib.hid hlen9
          clear hlen9
          go_wp2_with fail
          refine (size_i8 c8 w8a).mono ?_
          rintro e w8 ⟨rfl, rfl⟩
          go_wp2_with fail
          exact ⟨⟨k + 1, by omega, by go_num, rfl, by rw [HLEN.out]; congr 1; omega, HB9, HL8, HO8⟩, by simp [intOf]; omega⟩
        · obtain rfl : k = N := by omega
          have hbf := hBr.out
          rw [List.take_of_length_le (by rw [HN.out]; exact Nat.le_refl _)] at hbf ⊢
          have HBF := Lib.hid hbf
          have HLF := Lib.hid (HBL4.out.trans hLr.out)
          have HOF := Lib.hid (HO4.out.trans hOr.out)
          clear hbf
          go_wp2_with fail
          go_ret2
          refine ⟨?_, ?_, HLF.out, HOF.out⟩
          · rw [HMB.out, List.length_append, Z.leB_length]
            rfl
          · rw [HMB.out, ← List.append_assoc, HN.out]
            exact HBF.out
    · intro x c kl yd yp w2 cnt2 hkey hlk hv hat hrg2 hlt hg2 hs2 hen
      obtain ⟨x', ex, rfl, _⟩ := Maps.keyOf_str Tryd.underlying9 hkey
      obtain rfl : x = x' := encStr_inj ex
      have hrow2 := hrow.kept hg2 (Or.inr (row_ne_iter hrow hrg).symm)
      clear hs2
      go_wp2_with (first
        | (at_builtin; refine wpList_append_own _ rfl _ _ 45 rfl w.heap.size 9 i0 (.string ⟨#[]⟩) 1 16 Tryd.underlying45 hi hz0 hz1 hz2 rfl (by decide) _ _ _ rfl (hrow2.alloc _) ⟨w2.heap.size, 0, none⟩ 1 1 [encStr x] rfl rfl (cell_one_new _ _ _) (by simp [Value.oneCell', encStr]) (by unfold maxLen at *; omega) (by omega) (by have := hnx.size; have := hg2.size; simp; omega) ?_; intro v' w3 hown' hg3 hnil3)
        | go_in)
      have hrg3 := (hrg2.alloc _).kept hg3 (row_ne_low hrow2 hbl) (row_ne_iter hrow2 hrg2)
      go_roundw
      case rel =>
        refine ⟨_, cnt2, ss ++ [x], hrg3, by simp; omega, by simpa using hown', fun hv' => by have := (hnil3.1 hv').2; omega, hC.step hlk hat, ?_⟩
        exact ((hnx.grown hg2 hnx.size (fun j hj => by cases hj; exact hg1.size)).alloc (by have := hnx.size; have := hg2.size; omega) _).grown hg3 (by have := hnx.size; have := hg2.size; simp; omega) (fun j hj => (hrow2.lt j hj).1)
      case measure => rw [hrg3.left_eq, hrg.left_eq]; exact hlt
end Go.Proofs.YtaniafohcaiedaaDoor.M
