import Derived.Test.YtjifoimkjgepcaaDoorEn
import Derived.Test.YtjifoimkjgepcaaDoorRk
import Derived.Sort.OwnSorted
import Derived.Deep.QuietTactic
import Derived.BigQuiet
import Derived.Test.YtjifoimkjgepcaaDoorEz
/-
  The bytes that impl.TrieBytes writes, exactly.
-/
set_option linter.unusedVariables false
set_option linter.unusedSimpArgs false
namespace Go.Proofs.YtjifoimkjgepcaaDoor.Da
open Go.RowKit Go.ChangeShapes Go.Proofs.YtjifoimkjgepcaaDoor.K Go.Proofs.YtjifoimkjgepcaaDoor.Z Go.Proofs.YtjifoimkjgepcaaDoorW.PrintWords

/-- An array that is a trie of keys, wherever it lies. -/
structure TrieP (A : DA) (ks : Ks) : Prop where
  n : A.n ≤ 536870918
  pos : 0 < A.n
  rb : ∀ i, i < A.n → -2147483647 ≤ A.b i ∧ A.b i ≤ 2147483647
  rc : ∀ i, i < A.n → -2147483647 ≤ A.c i ∧ A.c i ≤ 2147483647
  tr : Tr A (fun _ => True) 0 ks
theorem Trie.toP {g : Nat} {A : DA} {ks : Ks} {w : World} (h : Trie g A ks w) : TrieP A ks := ⟨h.n, h.pos, h.rb, h.rc, h.tr⟩
theorem TrieP.at {g : Nat} {A : DA} {ks : Ks} {w : World} (h : TrieP A ks) (ha : w.heap[g]? = some (.cells (cellsOf A) tEl (0, 0))) : Trie g A ks w := ⟨ha, h.n, h.pos, h.rb, h.rc, h.tr⟩
/-- The bytes of a trie. -/
def bytesA (A : DA) : List Int := leB A.n 8 ++ daB A A.n
theorem bytesA_length (A : DA) : (bytesA A).length = 8 + 8 * A.n := by simp [bytesA, leB_length, daB_length]
theorem src_row {w : World} {g n : Nat} {cur : Array Value} {bs : List Int} (hg : w.heap[g]? = some (.cells cur U8 (0, 0))) (ht : cur.toList.take n = nums .u8 bs) : Src w ⟨g, 0, none⟩ bs := by
  intro j x hx
  have e : (⟨g, 0, none⟩ : Addr).add j = ⟨g, j, none⟩ := by unfold Addr.add; split <;> simp_all
  rw [e]
  exact src_of hg ht j _ (by simp [nums, hx])
def TbFull (keys : List ByteArray) (ids : List Int) (w : World) (e : Ending) (w' : World) : Prop := ∃ (A : DA) (g cap : Nat), e = .returned (.tuple #[.slice (some ⟨g, 0, none⟩) (8 + 8 * A.n) cap, .int .i64 0]) ∧ 8 + 8 * A.n ≤ cap ∧ TrieP A (ksAll keys ids) ∧
  Src w' ⟨g, 0, none⟩ (bytesA A) ∧ Below w.heap.size w w'
set_option maxHeartbeats 2000000 in
set_option maxRecDepth 100000 in
theorem trieBytes_full (Ak Ai : Option Addr) (ck ci : Nat) (keys : List ByteArray) (ids : List Int) (w : World) (hk : Keys keys ids) (hkC : Kd.string.C w Ak keys.length keys) (hiC : (Kd.int .i64).C w Ai ids.length ids) :
    Calls Tryd.prog 19 #[.slice Ak keys.length ck, .slice Ai ids.length ci] w (TbFull keys ids w) := by
  have HK := Lib.hid hk
  have HKC := Lib.hid hkC
  have HIC := Lib.hid hiC
  have hlen := hk.len
  have hil := hk.il
  have HIL := Lib.hid hil
  have hpos : 0 < keys.length := List.length_pos_iff.2 hk.ne
  have hipos : 0 < ids.length := by omega
  have hilen : ids.length ≤ 4000 := by omega
  clear hk hkC hiC hil
  go_enter Tryd.func19, Tryd.ntmps19
  go_wp2_with fail
  refine (clone_strs Ak ck keys w HKC.out (by omega)).mono ?_
  rintro e w1 ⟨v1, rfl, hr1, hb1⟩
  obtain ⟨kb, c1, rfl, hkb, hkl, curk, hkh⟩ := Kd.R_form hr1 hpos
  obtain ⟨A1', c1', hv1, hlc1, hC1⟩ := Kd.R_reads hr1
  injection hv1 with e1 _ _
  subst e1
  have HB1 := Lib.hid hb1
  have HC1 := Lib.hid hC1
  have HIC1 := Lib.hid (Kd.C_below HIC.out hb1)
  clear hr1 hb1 hC1 hkh
  go_wp2_with fail
  refine (clone_ints Ai ci ids w1 HIC1.out (by omega)).mono ?_
  rintro e w2 ⟨v2, rfl, hr2, hb2⟩
  obtain ⟨ib, c2, rfl, hib, hibl, curi, hih⟩ := Kd.R_form hr2 hipos
  obtain ⟨A2', c2', hv2, hlc2, hC2⟩ := Kd.R_reads hr2
  injection hv2 with e2 _ _
  subst e2
  have HB2 := Lib.hid (HB1.out.trans (hb2.mono HB1.out.size))
  have HC2 := Lib.hid hC2
  have HC12 := Lib.hid (Kd.C_below HC1.out hb2)
  clear hr2 hb2 hC2 hih
  go_wp2_with fail
  refine (build_any kb ib _ _ keys ids w2 HK.out HC12.out HC2.out).mono ?_
  rintro e w3 ⟨g, A, rfl, ht, hg, hb3⟩
  have HT := Lib.hid ht
  have HTP := Lib.hid ht.toP
  have HB3 := Lib.hid (HB2.out.trans (hb3.mono HB2.out.size))
  have hn := ht.n
  have hn0 := ht.pos
  have hgl : g < w3.heap.size := lt_of_heap ht.arr
  have HGA : Hid ((w3.alloc (.cells #[.slice none 0 0, .int .i64 0, .int .i8 0] tBuf)).heap[g]? = some (.cells (cellsOf A) tEl (0, 0))) := Lib.hid (heap_old ht.arr _)
  have HBuf := Lib.hid (buf_new w3)
  have HBa := Lib.hid (HB3.out.alloc HB3.out.size (.cells #[.slice none 0 0, .int .i64 0, .int .i8 0] tBuf))
  clear ht hb3
  go_wp2_with fail
  refine (da_writeTo g A w3.heap.size w3.heap.size [] _ HGA.out hgl HBuf.out (by simp) hn (by simp)).mono ?_
  rintro e w4 ⟨rfl, hb4, hl4⟩
  rw [List.nil_append] at hb4
  have HB4 := Lib.hid hb4
  have HL4 := Lib.hid (HBa.out.trans (hl4.mono HB3.out.size))
  obtain ⟨N, hN⟩ : ∃ N, 8 + 8 * A.n = N := ⟨_, rfl⟩
  have hlen : (nums .u8 (leB A.n 8 ++ daB A A.n)).length = N := by
    simp only [nums, List.length_map, List.length_append, leB_length, daB_length]
    exact hN
  rw [hN]
  have HNN := Lib.hid hN
  clear hb4 hl4 hN
  go_wp2_with fail
  refine (Tryd.Buffer_Len_at tBuf (fun _ => none) w3.heap.size w3.heap.size 0 _ w4 HB4.out).mono ?_
  rintro e w5 ⟨rfl, n3, rfl⟩
  rw [hlen]
  have HB5 : Hid (Buf w3.heap.size w3.heap.size (leB A.n 8 ++ daB A A.n) (w4.drewN n3)) := Lib.hid HB4.out
  have HL5 := Lib.hid (pw_below_drewN HL4.out n3)
  go_wp2_with fail
  refine (Tryd.Buffer_Bytes w3.heap.size w3.heap.size _ _ (buf_whole HB5.out)).mono ?_
  rintro e w6 ⟨v6, rfl, ho6, n6, rfl⟩
  rw [hlen] at ho6
  have HO6 := Lib.hid ho6
  have HL6 := Lib.hid (pw_below_drewN HL5.out n6)
  have HLEN := Lib.hid hlen
  clear ho6 hlen
  go_wp2_with fail
  go_ret2
  rcases HO6.out.2 with ⟨_, h⟩ | ⟨gb, cap, cur, rfl, h2, h3, h4, h5, h6, h7⟩
  · have := HNN.out; omega
  · refine ⟨A, gb, cap, by rw [HNN.out]; rfl, ?_, HTP.out, src_row h3 (by simpa [bytesA] using h7), pw_below_drewN HL4.out _⟩
    rw [HNN.out]
    omega
end Go.Proofs.YtjifoimkjgepcaaDoor.Da

/-
  The walks of trie.Read and impl.TrieRead where the bytes are those of a trie.
-/
set_option linter.unusedVariables false
set_option linter.unusedSimpArgs false
namespace Go.Proofs.YtjifoimkjgepcaaDoor.Da
open Go.RowKit Go.ChangeShapes Go.Proofs.YtjifoimkjgepcaaDoor.K Go.Proofs.YtjifoimkjgepcaaDoor.Z Go.Proofs.YtjifoimkjgepcaaDoorW.PrintWords

theorem leB_at (v : Int) (n k : Nat) (h : k < n) : (leB v n)[k]? = some (IntKind.u64.wrap v / 2 ^ (8 * k) % 256) := by
  simp [leB, h]
theorem daB_at (A : DA) (i j : Nat) (hj : j < 8) : ∀ k, i < k → (daB A k)[8 * i + j]? = (leB (A.b i) 4 ++ leB (A.c i) 4)[j]?
  | 0, h => absurd h (by omega)
  | k + 1, h => by
    rw [daB_succ, List.append_assoc]
    by_cases hk : i = k
    · subst hk
      rw [List.getElem?_append_right (by rw [daB_length]; omega), daB_length, show 8 * i + j - 8 * i = j by omega]
    · rw [List.getElem?_append_left (by rw [daB_length]; omega)]
      exact daB_at A i j hj k (by omega)
theorem bytesA_num (A : DA) (hn : A.n ≤ 536870918) : Num8 (bytesA A) A.n := by
  refine ⟨by omega, fun k hk => ?_⟩
  rw [bytesA, List.getElem?_append_left (by rw [leB_length]; omega), leB_at _ _ _ hk]
  have : IntKind.u64.wrap (A.n : Int) = A.n := by rw [IntKind.wrap_u64]; omega
  rw [this]
theorem bytesA_b (A : DA) (i : Nat) (hi : i < A.n) : ∀ k, k < 4 → (bytesA A)[8 + 8 * i + k]? = some (IntKind.u64.wrap (A.b i) / 2 ^ (8 * k) % 256) := by
  intro k hk
  rw [bytesA, List.getElem?_append_right (by rw [leB_length]; omega), leB_length, show 8 + 8 * i + k - 8 = 8 * i + k by omega, daB_at A i k (by omega) _ hi, List.getElem?_append_left (by rw [leB_length]; omega), leB_at _ _ _ hk]
theorem bytesA_c (A : DA) (i : Nat) (hi : i < A.n) : ∀ k, k < 4 → (bytesA A)[8 + 8 * i + 4 + k]? = some (IntKind.u64.wrap (A.c i) / 2 ^ (8 * k) % 256) := by
  intro k hk
  rw [bytesA, List.getElem?_append_right (by rw [leB_length]; omega), leB_length, show 8 + 8 * i + 4 + k - 8 = 8 * i + (4 + k) by omega, daB_at A i (4 + k) (by omega) _ hi, List.getElem?_append_right (by rw [leB_length]; omega), leB_length, show 4 + k - 4 = k by omega, leB_at _ _ _ hk]
/-- An array of which so many places are read. -/
def partA (A : DA) (i : Nat) : DA := ⟨A.n, fun j => if j < i then A.b j else 0, fun j => if j < i then A.c j else 0⟩
theorem partA_all (A : DA) : cellsOf (partA A A.n) = cellsOf A := cells_ext rfl (fun i hi => by simp [partA, show i < A.n from hi]) (fun i hi => by simp [partA, show i < A.n from hi])
theorem partA_zero (A : DA) : cellsOf (zeroA A.n) = cellsOf (partA A 0) := cells_ext rfl (fun i hi => by simp [partA, zeroA]) (fun i hi => by simp [partA, zeroA])
theorem partA_step (A : DA) (i : Nat) (hi : i < A.n) : ((cellsOf (partA A i)).setIfInBounds (i * 2) (.int .i32 (A.b i))).setIfInBounds (i * 2 + 1) (.int .i32 (A.c i)) = cellsOf (partA A (i + 1)) := by
  rw [cells_set_b (partA A i) hi, cells_set_c _ (show i < ({ partA A i with b := upd (partA A i).b i (A.b i) } : DA).n from hi)]
  refine cells_ext rfl (fun j hj => ?_) (fun j hj => ?_)
  · simp only [partA, upd]
    by_cases h : j = i
    · subst h; simp
    · simp only [h, if_false]
      by_cases h2 : j < i
      · rw [if_pos h2, if_pos (by omega)]
      · rw [if_neg h2, if_neg (by omega)]
  · simp only [partA, upd]
    by_cases h : j = i
    · subst h; simp
    · simp only [h, if_false]
      by_cases h2 : j < i
      · rw [if_pos h2, if_pos (by omega)]
      · rw [if_neg h2, if_neg (by omega)]
theorem partA_b0 (A : DA) (i : Nat) (hi : i < A.n) : (cellsOf (partA A i))[i * 2]? = some (.int .i32 0) := by
  rw [cells_b (partA A i) hi]
  simp [partA]
theorem partA_c0 (A : DA) (i : Nat) (hi : i < A.n) (v : Value) : ((cellsOf (partA A i)).setIfInBounds (i * 2) v)[i * 2 + 1]? = some (.int .i32 0) := by
  rw [Array.getElem?_setIfInBounds_ne (by omega), cells_c (partA A i) hi]
  simp [partA]
set_option maxHeartbeats 2000000 in
set_option maxRecDepth 5000 in
theorem trieRead_ok (rb cS : Nat) (ad : Addr) (prev : Int) (A : DA) (ks : Ks) (w : World) (hr : w.heap[rb]? = some (.cells #[.slice (some ad) (8 + 8 * A.n) cS, .int .i64 (0 : Nat), .int .i64 prev] tRd (0, 0)))
    (hT : TrieP A ks) (hL : 8 + 8 * A.n ≤ cS) (had : ad.block ≠ rb) (hS : Src w ad (bytesA A)) :
    Calls Tryd.prog 27 #[.iface tpRd (.pointer (some ⟨rb, 0, none⟩))] w fun e w' => ∃ g, e = .returned (.tuple #[.slice (some ⟨g, 0, none⟩) A.n A.n, .nilIface]) ∧ w'.heap[g]? = some (.cells (cellsOf A) tEl (0, 0)) ∧ w.heap.size ≤ g ∧ Keeps (fun i => i = rb) w w' := by
  have hn := hT.n
  have hN := bytesA_num A hn
  obtain ⟨L, hLe⟩ : ∃ L, L = 8 + 8 * A.n := ⟨_, rfl⟩
  rw [← hLe] at hr hL
  have hcS : L ≤ maxLen := by unfold maxLen; omega
  have HKS := Lib.hid (show ∀ wr, Keeps (fun i => i = rb) w wr → Src wr ad (bytesA A) from fun wr k => hS.keeps k had)
  obtain ⟨sb, hsb⟩ : ∃ sb, sb = w.heap.size := ⟨_, rfl⟩
  obtain ⟨w1, hw1⟩ : ∃ w1, w1 = w.alloc (.cells #[.int .i64 0] 2) := ⟨_, rfl⟩
  have hk1 : Keeps (fun i => i = rb) w w1 := hw1 ▸ Keeps.of_below (below_alloc (Below.refl _ w) _)
  have hr1 : w1.heap[rb]? = _ := hw1 ▸ blk_alloc hr _
  have hb1 : w1.heap[sb]? = some (.cells #[.int .i64 0] 2 (0, 0)) := by rw [hsb, hw1]; exact heap_alloc_new w _
  have hrs : rb < sb := hsb ▸ lt_of_heap hr
  have HSB := Lib.hid hsb
  have H0 := Lib.hid (read_i64 rb L cS 0 sb 0 2 ad #[.int .i64 0] 0 A.n w1 (by omega) ⟨prev, hr1⟩ hb1 rfl (by decide) (by omega) hL hcS had ((HKS.out w1 hk1).num8 hN rfl))
  have HK := Lib.hid hk1
  have HT := Lib.hid hT
  have hW1 := Lib.hid hw1
  have HLE := Lib.hid hLe
  obtain ⟨N, hNe⟩ : ∃ N, N = A.n := ⟨_, rfl⟩
  rw [← hNe] at H0 hn hN ⊢
  have HNE := Lib.hid hNe
  have hmk : ∀ W : World, (Instr.makeSlice tDA (.int .i64 N) (.int .i64 N)).run Tryd.prog W = .ok (.slice (some ⟨W.heap.size, 0, none⟩) N N) (W.alloc (.cells (cellsOf (zeroA N)) tEl)) := fun W => make_da N (by omega) W
  clear hr hS hk1 hr1 hb1 hw1 hN hsb hT hLe hNe
  go_enter Tryd.func27, Tryd.ntmps27
  go_wp2_with fail
  rw [← HSB.out, ← hW1.out]
  refine H0.out.mono ?_
  rintro e w2 ⟨rfl, hr2, hv2, hk2⟩
  have HK2 := Lib.hid (((HK.out.mono (T := fun i => i = rb ∨ i = sb) (fun i _ h => .inl h)).trans hk2).mono (T := fun i => i = rb) (fun i hi h => by rcases h with h | h; exact h; have := HSB.out; omega))
  have hcs : w2.cell? ⟨sb, 0, none⟩ = some (.int .i64 N) := (cell_block hv2 0).trans rfl
  obtain ⟨d, hd⟩ : ∃ d, d = w2.heap.size := ⟨_, rfl⟩
  obtain ⟨w3, hw3⟩ : ∃ w3, w3 = w2.alloc (.cells (cellsOf (zeroA N)) tEl) := ⟨_, rfl⟩
  have hk3 : Keeps (fun i => i = rb) w w3 := hw3 ▸ HK2.out.trans (Keeps.of_below (below_alloc (Below.refl _ w2) _))
  have hr3 : Rdr rb ad L cS 8 w3 := by
    obtain ⟨pr, h⟩ := hr2
    exact ⟨pr, hw3 ▸ blk_alloc h _⟩
  have hd3 : w3.heap[d]? = some (.cells (cellsOf (partA A 0)) tEl (0, 0)) := by rw [hd, hw3, ← partA_zero, ← HNE.out]; exact heap_alloc_new w2 _
  have hrd : rb < d := hd ▸ lt_of_heap hr2.choose_spec
  have hdw : w.heap.size ≤ d := hd ▸ HK2.out.size
  have HW3 := Lib.hid hw3
  have HD := Lib.hid hd
  have HK3 := Lib.hid hk3
  have HR3 := Lib.hid hr3
  have HD3 := Lib.hid hd3
  clear hr2 hv2 hk2 hw3 hd hk3 hr3 hd3 HK2 H0 HK
  go_wp2_with fail
  rw [← HD.out, ← HW3.out]
  go_loopw [20] (fun x wr => ∃ (i : Nat), x = .int .i64 i ∧ i ≤ N ∧ Hid (wr.heap[d]? = some (.cells (cellsOf (partA A i)) tEl (0, 0))) ∧ Hid (Rdr rb ad L cS (8 + 8 * i) wr) ∧ Hid (Keeps (fun i => i = rb) w wr)) (fun x _ => N - (intOf x).toNat)
  case atStart => exact ⟨0, rfl, Nat.zero_le _, HD3, HR3, HK3⟩
  case round =>
    obtain ⟨i, rfl, hil, HG, HR, HKw⟩ := hrel
    by_cases hiN : i < N
    · have hiN' : (i : Int) < (N : Int) := by omega
      have hiA : i < A.n := by have := HNE.out; omega
      have HIA := Lib.hid hiA
      have HS1 := Lib.hid (HKS.out wr HKw.out)
      have hLl : 8 + 8 * i + 8 ≤ L := by have := HLE.out; omega
      have H5 := Lib.hid (read_i32 rb L cS (8 + 8 * i) d (i * 2) tEl ad (cellsOf (partA A i)) _ (A.b i) wr (by have := HT.out.rb i hiA; omega) HR.out HG.out (partA_b0 A i hiA) (by decide) (by omega) hL hcS had (HS1.out.num4 (bytesA_b A i hiA)))
      clear hiA
      go_wp2_with fail
      refine H5.out.mono ?_
      rintro e w5 ⟨rfl, hr5, hg5, hk5⟩
      have hk5' : Keeps (fun i => i = rb) w w5 := ((HKw.out.mono (T := fun i => i = rb ∨ i = d) (fun i _ h => .inl h)).trans hk5).mono (T := fun i => i = rb) (fun i hi h => by rcases h with h | h; exact h; omega)
      have HK5 := Lib.hid hk5'
      have HS5 := Lib.hid (HKS.out w5 hk5')
      have H6 := Lib.hid (read_i32 rb L cS (8 + 8 * i + 4) d (i * 2 + 1) tEl ad _ _ (A.c i) w5 (by have := HT.out.rc i HIA.out; omega) hr5 hg5 (partA_c0 A i HIA.out _) (by decide) (by omega) hL hcS had (HS5.out.num4 (bytesA_c A i HIA.out)))
      clear hr5 hg5 hk5 hk5' H5
      go_wp2_with fail
      refine H6.out.mono ?_
      rintro e w6 ⟨rfl, hr6, hg6, hk6⟩
      rw [partA_step A i HIA.out] at hg6
      have hk6' : Keeps (fun i => i = rb) w w6 := ((HK5.out.mono (T := fun i => i = rb ∨ i = d) (fun i _ h => .inl h)).trans hk6).mono (T := fun i => i = rb) (fun i hi h => by rcases h with h | h; exact h; omega)
      have HR6 := Lib.hid hr6
      have HG6 := Lib.hid hg6
      have HK6 := Lib.hid hk6'
      clear hr6 hg6 hk6 hk6' H6
      go_wp2_with fail
      exact ⟨⟨i + 1, by go_num, by omega, HG6, by rw [show 8 + 8 * (i + 1) = 8 + 8 * i + 4 + 4 by omega]; exact HR6, HK6⟩, by simp [intOf]; omega⟩
    · have hiN' : ¬ ((i : Int) < (N : Int)) := by omega
      obtain rfl : i = N := by omega
      go_wp2_with fail
      go_ret2
      refine ⟨d, rfl, ?_, hdw, HKw.out⟩
      have := HG.out
      rw [HNE.out, partA_all] at this
      exact this
end Go.Proofs.YtjifoimkjgepcaaDoor.Da

/-
  The walk of impl.TrieRead where the bytes are those of a trie.
-/
set_option linter.unusedVariables false
set_option linter.unusedSimpArgs false
namespace Go.Proofs.YtjifoimkjgepcaaDoor.Da
open Go.RowKit Go.ChangeShapes Go.Proofs.YtjifoimkjgepcaaDoor.K Go.Proofs.YtjifoimkjgepcaaDoor.Z Go.Proofs.YtjifoimkjgepcaaDoorW.PrintWords

set_option maxHeartbeats 1000000 in
set_option maxRecDepth 5000 in
theorem implRead_ok (g cap : Nat) (B : Option Addr) (d : Nat) (A : DA) (keys : List ByteArray) (ids : List Int) (inputs : List ByteArray) (w : World) (hk : Keys keys ids) (hT : TrieP A (ksAll keys ids)) (hS : Src w ⟨g, 0, none⟩ (bytesA A)) (hc : 8 + 8 * A.n ≤ cap)
    (hI : Kd.string.C w B inputs.length inputs) (hin : Asked inputs) :
    Calls Tryd.prog 17 #[.slice (some ⟨g, 0, none⟩) (8 + 8 * A.n) cap, .slice B inputs.length d] w (AnsRet keys ids inputs w) := by
  have hgl : g < w.heap.size := hS.lt (by rw [bytesA_length]; omega)
  have hn := hT.n
  obtain ⟨w1, hw1⟩ : ∃ w1, w1 = w.alloc (.cells #[.slice (some ⟨g, 0, none⟩) (8 + 8 * A.n) cap, .int .i64 0, .int .i64 (-1)] tRd) := ⟨_, rfl⟩
  have hb1 : Below w.heap.size w w1 := hw1 ▸ below_alloc (Below.refl _ w) _
  have hr1 : w1.heap[w.heap.size]? = some (.cells #[.slice (some ⟨g, 0, none⟩) (8 + 8 * A.n) cap, .int .i64 (0 : Nat), .int .i64 (-1)] tRd (0, 0)) := hw1 ▸ heap_alloc_new w _
  have H0 := Lib.hid (trieRead_ok w.heap.size cap ⟨g, 0, none⟩ (-1) A (ksAll keys ids) w1 hr1 hT hc (Nat.ne_of_lt hgl) (hS.below hb1))
  obtain ⟨L, hLe⟩ : ∃ L, L = 8 + 8 * A.n := ⟨_, rfl⟩
  obtain ⟨N, hNe⟩ : ∃ N, N = A.n := ⟨_, rfl⟩
  rw [← hLe] at hw1 hr1 hc ⊢
  have HS := Lib.hid (sized_any ⟨g, 0, none⟩ L cap (bytesA A) A.n w (by omega) (by omega) (bytesA_num A hn) hS)
  have hd : decide ((A.n : Int) ≤ (L : Int)) = true := decide_eq_true (by omega)
  rw [hd] at HS
  rw [← hNe] at H0
  have HNE := Lib.hid hNe
  have HB := Lib.hid hb1
  have HW1 := Lib.hid hw1
  have HK := Lib.hid hk
  have HT := Lib.hid hT
  have HI := Lib.hid hI
  have HIN := Lib.hid hin
  clear hS hw1 hb1 hr1 hd hk hT hI hLe hNe hn hin
  go_enter Tryd.func17, Tryd.ntmps17
  go_wp2_with fail
  refine HS.out.mono ?_
  rintro e w2 ⟨rfl, rfl⟩
  go_wp2_with fail
  refine (newReader_any (some ⟨g, 0, none⟩) L cap w2).mono ?_
  rintro e w3 ⟨rfl, hw3⟩
  rw [← HW1.out] at hw3
  subst hw3
  go_wp2_with fail
  refine H0.out.mono ?_
  rintro e w4 ⟨q, rfl, hq, hql, hk4⟩
  have hb4 := hk4.below (B := w2.heap.size) (fun i _ h => by omega) HB.out.size
  have HB4 := Lib.hid (HB.out.trans hb4)
  have HTR := Lib.hid (HT.out.at hq)
  have HI4 := Lib.hid (Kd.C_below HI.out HB4.out)
  clear hk4 hb4 hq
  go_wp2_with fail
  rw [HNE.out]
  refine (ask_any q A (ksAll keys ids) B d inputs w4 HTR.out (ks_ids HK.out) HI4.out HIN.out.2 HIN.out.1).mono ?_
  rintro e w5 ⟨v5, rfl, hr5, hb5⟩
  have HR5 := Lib.hid (Kd.R_lower hr5 HB4.out.size)
  have HB5 := Lib.hid (HB4.out.trans (hb5.mono HB4.out.size))
  clear hr5 hb5
  go_wp2_with fail
  go_ret2
  exact ⟨_, rfl, HR5.out, HB5.out⟩
end Go.Proofs.YtjifoimkjgepcaaDoor.Da

/-
  The walk of laws.sorted: sort.Strings on a row of one's own, and equal texts left out.
-/
set_option linter.unusedVariables false
set_option linter.unusedSimpArgs false
namespace Go.Proofs.YtjifoimkjgepcaaDoor.Da
open Go.RowKit Go.ChangeShapes Go.Proofs.YtjifoimkjgepcaaDoor.K Go.Proofs.YtjifoimkjgepcaaDoor.Z Go.Proofs.YtjifoimkjgepcaaDoorW.PrintWords

abbrev tStr : Nat := 9
/-- Texts in ascending order. -/
def sortS (xs : List ByteArray) : List ByteArray := ((xs.map (·.data.toList)).mergeSort fun x y => decide (x ≤ y)).map fun l => ⟨l.toArray⟩
theorem sortS_length (xs : List ByteArray) : (sortS xs).length = xs.length := by simp [sortS]
theorem sortS_perm (xs : List ByteArray) : (sortS xs).Perm xs := by
  unfold sortS
  have h := (List.mergeSort_perm (xs.map (·.data.toList)) fun x y => decide (x ≤ y)).map fun l => (⟨l.toArray⟩ : ByteArray)
  rw [List.map_map] at h
  have e : (List.map ((fun l => (⟨l.toArray⟩ : ByteArray)) ∘ fun x => x.data.toList) xs) = xs := by
    rw [List.map_congr_left (g := id) (fun x _ => by simp), List.map_id]
  rw [e] at h
  exact h
theorem sort_own {base : Nat} {w : World} {v : Value} {xs : List ByteArray} (hne : 0 < xs.length) (h : Kd.string.R tStr w base (fun _ => True) v xs) (hl : xs.length < 4611686018427387904) :
    Calls Tryd.prog 48 #[v] w fun e w' => e = .returned (.tuple #[]) ∧ Kd.string.R tStr w' base (fun _ => True) v (sortS xs) ∧ w.grownBy w' v.ownBlock := by
  have ho := Kd.own_of_R (enc := Value.string) (h1 := fun _ => rfl) h
  obtain ⟨hn, hc⟩ := ho
  rcases hc with hc | ⟨g, cap, cells, rfl, hb, hh, h1, h2, h3, h4⟩
  · omega
  · have hsl : (xs.map (·.data.toList)).length = xs.length := List.length_map _
    have hcur : cells.toList.take (xs.map (·.data.toList)).length = (xs.map (·.data.toList)).map Go.Proofs.encStr := by
      rw [hsl, ← Nat.mul_one xs.length, h4]
      simp [encs]
    have hH := Go.holds_of_block (ss := xs.map (·.data.toList)) hh hcur
    have hgl := lt_of_heap hh
    have hq := Tryd.sort_Strings g 0 cap (xs.map (·.data.toList)) w hH hgl (by rw [hsl]; exact hl)
    rw [hsl] at hq
    refine hq.mono ?_
    rintro e w' ⟨rfl, n, os, rfl⟩
    refine ⟨rfl, ?_, Go.grownBy_sorted _⟩
    have hr := Go.ownsRow_sorted (n := n) (os := os) (ts := (xs.map (·.data.toList)).mergeSort fun x y => decide (x ≤ y)) (ss := xs.map (·.data.toList)) (by simp) hb hh (by rw [hsl]; exact h1) h2 h3
    rw [hsl] at hr
    refine Kd.R_of_own (enc := Value.string) (h1 := fun _ => rfl) ?_ (fun _ _ => trivial)
    rw [sortS_length]
    have e : encs Value.string (sortS xs) = ((xs.map (·.data.toList)).mergeSort fun x y => decide (x ≤ y)).map Go.Proofs.encStr := by
      simp only [encs, sortS, List.map_map]
      rfl
    rw [e]
    exact hr
section
variable {P : Program} {ops : Array Oper} {rest : List Oper} {o : Oper} {a : Act} {Q : Exit → Act → World → Prop}
/-- append(v, ys...) of texts. -/
theorem sapps {w0 W : World} (base : Nat) (hgd : o.guard = none) (s x : Operand) (t : TypeId) (e : TypeId)
    (ho : o.op = .call { callee := .builtin .append, args := #[s, x], argTypes := #[t, t] })
    (ht : P.underlying t = some (.slice e)) (hinfo : (P.info? e).map (fun i => (i.zero, i.size, i.bytes)) = some (some (.string ⟨#[]⟩), 1, 16))
    (v : Value) (xs ys : List ByteArray) (A : Option Addr) (c : Nat) (hy : 0 < ys.length) (hs : a.eval s = v) (hx : a.eval x = .slice A ys.length c) (hC : Kd.string.C W A ys.length ys)
    (HO : Kd.string.R e W base (fun _ => True) v xs) (HB : Below base w0 W) (hbase : base ≤ W.heap.size) (hl : (xs.length + ys.length) * 16 ≤ 140737488355328)
    (h : ∀ v1 w1, Kd.string.R e w1 base (fun _ => True) v1 (xs ++ ys) → Below base w0 w1 → wpList P ops Q rest (a.put o.dst v1) w1) :
    wpList P ops Q (o :: rest) a W := by
  obtain ⟨i0, hi, hzz⟩ := Option.map_eq_some_iff.1 hinfo
  simp only [Prod.mk.injEq] at hzz
  obtain ⟨hz0, hz1, hz2⟩ := hzz
  obtain ⟨ad, rfl, -⟩ := strs_at hC 0 hy
  have hown := Kd.own_of_R (enc := Value.string) (h1 := fun _ => rfl) HO
  refine wpList_append_own_at W hgd s x t ho base e i0 (.string ⟨#[]⟩) 1 16 ht hi hz0 hz1 hz2 rfl (by decide) v xs.length (encs Value.string xs) hs hown ad ys.length c (ys.map Value.string) hx (by simp)
    ?_ ?_ (by simp only [maxLen]; omega) hl hbase ?_
  · intro j u hj
    rw [List.getElem?_map, Option.map_eq_some_iff] at hj
    obtain ⟨y, hy, rfl⟩ := hj
    have hj' := (List.getElem?_eq_some_iff.1 hy).1
    obtain ⟨ad2, e, hc⟩ := strs_at hC j hj'
    cases e
    rw [hc, (List.getElem?_eq_some_iff.1 hy).2]
  · intro u hu
    obtain ⟨y, -, rfl⟩ := List.mem_map.1 hu
    rfl
  intro v1 w1 hown1 hgr _ hat
  refine h v1 w1 (Kd.R_of_own (enc := Value.string) (h1 := fun _ => rfl) (by simpa [encs] using hown1) (fun _ _ => trivial)) (HB.grown hgr hbase (own_base hown))
end
/-- Of ascending texts the first ones, each once. -/
def ddS (S : List ByteArray) : Nat → List ByteArray
  | 0 => []
  | k + 1 => if k = 0 ∨ ((kAt S k).toList == (kAt S (k - 1)).toList) = false then ddS S k ++ [kAt S k] else ddS S k
theorem ddS_len (S : List ByteArray) : ∀ k, (ddS S k).length ≤ k
  | 0 => Nat.le_refl _
  | k + 1 => by
    have := ddS_len S k
    unfold ddS
    split
    · simp; omega
    · omega
set_option maxHeartbeats 2000000 in
set_option maxRecDepth 5000 in
theorem sorted_any (A : Option Addr) (c : Nat) (xs : List ByteArray) (w : World) (hC : Kd.string.C w A xs.length xs) (hp : 0 < xs.length) (hl : xs.length ≤ 4000) :
    Calls Tryd.prog 30 #[.slice A xs.length c] w (RetRow Kd.string tStr (ddS (sortS xs) xs.length) w) := by
  have HC := Lib.hid hC
  clear hC
  go_enter Tryd.func30, Tryd.ntmps30
  go_wp2_with (at_builtin; refine sapps (w0 := w) w.heap.size rfl _ _ 34 tStr rfl Tryd.underlying34 (by kernel_rfl) _ [] xs A c hp rfl rfl ?hC (R_empty Kd.string tStr w w.heap.size (Nat.le_refl _)) ((Below.refl _ w).alloc (Nat.le_refl _) _) (by simp) (by simp; omega) ?_)
  case hC => exact Kd.C_alloc HC.out _
  intro v1 w1 hR1 hB1
  have HR1 := Lib.hid hR1
  have HB1 := Lib.hid hB1
  clear hR1 hB1
  go_wp2_with fail
  refine (sort_own hp HR1.out (by omega)).mono ?_
  rintro e w2 ⟨rfl, hR2, hg2⟩
  have HB2 := Lib.hid (HB1.out.grown hg2 HB1.out.size (own_base (Kd.R_own HR1.out).choose_spec))
  obtain ⟨A2, c2, rfl, hlc, hC2⟩ := Kd.R_reads hR2
  have hSl := sortS_length xs
  rw [hSl]
  rw [hSl] at hC2
  obtain ⟨S, hS⟩ : ∃ S, S = sortS xs := ⟨_, rfl⟩
  rw [← hS] at hSl hC2
  have HSE := Lib.hid hS
  have HSL := Lib.hid hSl
  have HC2 := Lib.hid (hSl.symm ▸ hC2 : Kd.string.C w2 A2 S.length S)
  clear hR2 hg2 hC2 hS hSl HR1
  have HZ := Lib.hid HB2.out.size
  go_wp2_with fail
  go_loopw [3, 13] (fun v i wr => ∃ k : Nat, k ≤ xs.length ∧ i = .int .i64 k ∧ Hid (Kd.string.R tStr wr w2.heap.size (fun _ => True) v (ddS S k)) ∧ Hid (Below w2.heap.size w2 wr)) (fun _ i _ => xs.length - (intOf i).toNat)
  case atStart => exact ⟨0, Nat.zero_le _, rfl, Lib.hid (Kd.R_nil _ _ _ _ _), Lib.hid (Below.refl _ _)⟩
  case round =>
    obtain ⟨k, hk, rfl, HR, HB⟩ := hrel
    by_cases hlt : k < xs.length
    · have hkS : k < S.length := by have := HSL.out; omega
      obtain ⟨ad, rfl, hs⟩ := strs_at (Kd.C_below HC2.out HB.out) k hkS
      rw [← kAt_eq hkS] at hs
      have hsz : w2.heap.size ≤ wr.heap.size := HB.out.size
      have hdl := ddS_len S k
      obtain ⟨s, hse⟩ : ∃ s, s = kAt S k := ⟨_, rfl⟩
      rw [← hse] at hs
      have HSE2 := Lib.hid hse
      clear hse
      by_cases hk0 : k = 0
      · subst hk0
        have hs0 : wr.cell? ad = some (.string s) := by simpa [Addr.add] using hs
        go_wp2_with (at_builtin; refine kapp (w0 := w2) Kd.string w2.heap.size rfl _ _ 34 9 (.string ⟨#[]⟩) 16 rfl Tryd.underlying34 (by kernel_rfl) rfl (by decide) (by decide) _ (ddS S 0) s [.string s] (fun _ => True) (fun _ => False) _ rfl rfl (by intro j u hj; rw [cell_of_heap (heap_new _ _)]; simpa using hj) rfl (fun _ h => h.elim) (fun _ _ => trivial) (Kd.R_alloc HR.out _) (HB.out.alloc hsz _) (by simp; omega) ?hl ?_)
        case hl => simp [ddS]
        intro v1 w3 hR3 hB3 hg3 hat3
        have HR3 := Lib.hid hR3
        have HB3 := Lib.hid hB3
        clear hR3 hB3 hg3 hat3
        go_wp2_with fail
        refine ⟨⟨1, by omega, rfl, Lib.hid ?_, HB3⟩, by simp [intOf]; omega⟩
        have := HR3.out
        rw [HSE2.out] at this
        simpa [ddS] using this
      · obtain ⟨m, hm⟩ : ∃ m, k = m + 1 := ⟨k - 1, by omega⟩
        have hm1 : (k : Int) - 1 = (m : Int) := by omega
        have hk0' : ¬ ((k : Int) = 0) := by omega
        have hmS : m < S.length := by omega
        obtain ⟨ad', he, hs'⟩ := strs_at (Kd.C_below HC2.out HB.out) m hmS
        cases he
        rw [← kAt_eq hmS] at hs'
        obtain ⟨s', hse'⟩ : ∃ s', s' = kAt S m := ⟨_, rfl⟩
        rw [← hse'] at hs'
        have HSE3 := Lib.hid hse'
        clear hse'
        have hw64 : wrap64 (m : Int) = (m : Int) := by unfold wrap64; omega
        have HM := Lib.hid hm
        clear hm
        have hkb : ((k : Int) == 0) = false := by simpa using hk0'
        obtain ⟨B, hB⟩ : ∃ B : Bool, (s.toList == s'.toList) = B := ⟨_, rfl⟩
        have HBB := Lib.hid hB
        cases B
        · go_wp2_with (at_builtin; refine kapp (w0 := w2) Kd.string w2.heap.size rfl _ _ 34 9 (.string ⟨#[]⟩) 16 rfl Tryd.underlying34 (by kernel_rfl) rfl (by decide) (by decide) _ (ddS S k) s [.string s] (fun _ => True) (fun _ => False) _ rfl rfl (by intro j u hj; rw [cell_of_heap (heap_new _ _)]; simpa using hj) rfl (fun _ h => h.elim) (fun _ _ => trivial) (Kd.R_alloc HR.out _) (HB.out.alloc hsz _) (by simp; omega) ?hl ?_)
          case hl => omega
          intro v1 w3 hR3 hB3 hg3 hat3
          have HR3 := Lib.hid hR3
          have HB3 := Lib.hid hB3
          clear hR3 hB3 hg3 hat3
          go_wp2_with fail
          refine ⟨⟨k + 1, by omega, by go_num, Lib.hid ?_, HB3⟩, by simp [intOf]; try omega⟩
          have e : ddS S (k + 1) = ddS S k ++ [s] := by
            have hcond : k = 0 ∨ ((kAt S k).toList == (kAt S (k - 1)).toList) = false := .inr (by
              rw [show k - 1 = m by have := HM.out; omega, ← HSE2.out, ← HSE3.out]
              exact HBB.out)
            rw [ddS, if_pos hcond, ← HSE2.out]
          rw [e]
          exact HR3.out
        · go_wp2_with fail
          refine ⟨⟨k + 1, by omega, by go_num, Lib.hid ?_, HB⟩, by simp [intOf]; omega⟩
          have e : ddS S (k + 1) = ddS S k := by
            rw [ddS, if_neg]
            rintro (h | h)
            · exact hk0 h
            · rw [show k - 1 = m by have := HM.out; omega, ← HSE2.out, ← HSE3.out, HBB.out] at h
              cases h
          rw [e]
          exact HR.out
    · obtain rfl : k = xs.length := by omega
      go_wp2_with fail
      go_ret
      refine ⟨_, rfl, ?_, HB2.out.trans (HB.out.mono HZ.out)⟩
      have := Kd.R_lower HR.out HZ.out
      rw [HSE.out] at this
      exact this
end Go.Proofs.YtjifoimkjgepcaaDoor.Da

/-
  The walk of laws.many.
-/
set_option linter.unusedVariables false
set_option linter.unusedSimpArgs false
namespace Go.Proofs.YtjifoimkjgepcaaDoor.Da
open Go.RowKit Go.ChangeShapes Go.Proofs.YtjifoimkjgepcaaDoor.K Go.Proofs.YtjifoimkjgepcaaDoor.Z Go.Proofs.YtjifoimkjgepcaaDoorW.PrintWords

/-- A text of small letters alone. -/
def Lets (s : ByteArray) : Prop := ∀ b ∈ s.data.toList, 97 ≤ b ∧ b ≤ 122
/-- A word of letters, not empty and not long. -/
def Word (s : ByteArray) : Prop := s.size ≤ 17 ∧ 0 < s.size ∧ Lets s
abbrev abc : ByteArray := ⟨#[97, 98, 99, 100, 101, 102, 103, 104, 105, 106, 107, 108, 109, 110, 111, 112, 113, 114, 115, 116, 117, 118, 119, 120, 121, 122]⟩
theorem abc_let : ∀ r, r < 26 → (abc.extract r (r + 1)).size = 1 ∧ Lets (abc.extract r (r + 1)) := by
  intro r hr
  unfold Lets
  revert r
  decide +kernel
theorem lets_app {a b : ByteArray} (ha : Lets a) (hb : Lets b) : Lets (a ++ b) := by
  intro x hx
  rw [ByteArray.data_append, Array.toList_append, List.mem_append] at hx
  exact hx.elim (ha x) (hb x)
theorem half_step {x k b : Nat} (hb : 2 ≤ b) (h : x * 2 ^ k ≤ 102145) (hx : 0 < x) : (x / b) * 2 ^ (k + 1) ≤ 102145 ∧ k ≤ 16 := by
  constructor
  · have h1 : x / b * 2 ≤ x := by
      have h2 : x / b ≤ x / 2 := Nat.div_le_div_left hb (by decide)
      have := Nat.div_mul_le_self x 2
      omega
    calc x / b * 2 ^ (k + 1) = x / b * 2 * 2 ^ k := by rw [Nat.pow_succ]; ac_rfl
      _ ≤ x * 2 ^ k := Nat.mul_le_mul_right _ h1
      _ ≤ 102145 := h
  · rcases Nat.lt_or_ge 16 k with hk | hk
    · have h3 : 2 ^ 17 ≤ 2 ^ k := Nat.pow_le_pow_right (by decide) hk
      have h4 : 2 ^ k ≤ x * 2 ^ k := Nat.le_mul_of_pos_left _ hx
      have : (2 : Nat) ^ 17 = 131072 := by decide
      omega
    · exact hk
set_option maxHeartbeats 2000000 in
set_option maxRecDepth 5000 in
theorem many_any (n b salt : Nat) (w : World) (hn : 1 ≤ n) (hn2 : n ≤ 400) (hb : 2 ≤ b) (hb2 : b ≤ 25) (hs : 1 ≤ salt) (hs2 : salt ≤ 256) :
    Calls Tryd.prog 18 #[.int .i64 n, .int .i64 b, .int .i64 salt] w fun e w' => ∃ L : List ByteArray, L.length = n ∧ (∀ s ∈ L, Word s) ∧ RetRow Kd.string tStr (ddS (sortS L) L.length) w e w' := by
  go_enter Tryd.func18, Tryd.ntmps18
  go_wp2_with fail
  go_loopw [7, 12] (fun v i wr => ∃ (k : Nat) (L : List ByteArray), k ≤ n ∧ i = .int .i64 k ∧ L.length = k ∧ Hid (∀ s ∈ L, Word s) ∧ Hid (Kd.string.R tStr wr w.heap.size (fun _ => True) v L) ∧ Hid (Below w.heap.size w wr)) (fun _ i _ => n - (intOf i).toNat)
  case atStart => exact ⟨0, [], Nat.zero_le _, rfl, rfl, Lib.hid (by simp), Lib.hid (Kd.R_nil _ _ _ _ _), Lib.hid (Below.refl _ _)⟩
  case round =>
    obtain ⟨k, L, hk, rfl, hLk, HWD, HR, HB⟩ := hrel
    by_cases hlt : k < n
    · have hmul : (k : Int) * (salt : Int) ≤ 102144 := by
        have h1 : k * salt ≤ 399 * 256 := Nat.mul_le_mul (by omega) hs2
        have h2 : ((k * salt : Nat) : Int) = (k : Int) * (salt : Int) := Int.natCast_mul k salt
        omega
      have hmul0 : 0 ≤ (k : Int) * (salt : Int) := Int.mul_nonneg (by omega) (by omega)
      obtain ⟨X, hX⟩ : ∃ X : Nat, (X : Int) = (k : Int) * (salt : Int) + 1 := ⟨k * salt + 1, by rw [Int.natCast_add, Int.natCast_mul]; rfl⟩
      have hX1 : 1 ≤ X ∧ X ≤ 102145 := by omega
      have hw1 : wrap64 ((k : Int) * (salt : Int)) = (k : Int) * (salt : Int) := by unfold wrap64; omega
      have hw2 : wrap64 ((k : Int) * (salt : Int) + 1) = (X : Int) := by rw [← hX]; unfold wrap64; omega
      have HX := Lib.hid hX
      clear hX hmul hmul0
      go_wp2_with fail
      go_loopw [9, 10] (fun y x wr => ∃ (s : ByteArray) (x0 : Nat), y = .string s ∧ x = .int .i64 x0 ∧ s.size ≤ 17 ∧ Hid (Lets s ∧ (0 < x0 ∨ 0 < s.size) ∧ x0 * 2 ^ s.size ≤ 102145) ∧ Hid (Kd.string.R tStr wr w.heap.size (fun _ => True) u7 L) ∧ Hid (Below w.heap.size w wr)) (fun _ x _ => (intOf x).toNat)
      case atStart => exact ⟨⟨#[]⟩, X, rfl, by congr 1, by decide, Lib.hid ⟨fun b hb => by simp at hb, .inl (by omega), by show X * 1 ≤ _; omega⟩, HR, HB⟩
      case round =>
        obtain ⟨s, x, rfl, rfl, hsz, HP, HR2, HB2⟩ := hrel
        by_cases hx : 0 < x
        · have hx' : (0 : Int) < (x : Int) := by omega
          have hb0 : b ≠ 0 := by omega
          have hb0i : (b : Int) ≠ 0 := by omega
          have HH := Lib.hid (half_step hb HP.out.2.2 hx)
          have hxm : x ≤ 102145 := Nat.le_trans (Nat.le_mul_of_pos_right _ (Nat.pow_pos (by decide))) HP.out.2.2
          obtain ⟨r, hr⟩ : ∃ r, r = x % b := ⟨_, rfl⟩
          obtain ⟨q, hq⟩ : ∃ q, q = x / b := ⟨_, rfl⟩
          have hrb : r < b := hr ▸ Nat.mod_lt _ (by omega)
          have hqx : q < x := hq ▸ Nat.div_lt_self hx (by omega)
          have htm : Int.tmod (x : Int) (b : Int) = (r : Int) := by rw [Int.tmod_eq_emod_of_nonneg (by omega), hr]; rfl
          have htd : Int.tdiv (x : Int) (b : Int) = (q : Int) := by rw [Int.tdiv_eq_ediv_of_nonneg (by omega), hq]; rfl
          obtain ⟨D, hD⟩ : ∃ D, D = abc.extract r (r + 1) := ⟨_, rfl⟩
          have hD0 := hD
          have hcut : ∀ W : World, (Instr.slice 9 (.string abc) (some (.int .i64 r)) (some (.int .i64 ((r : Int) + 1))) none).run Tryd.prog W = .ok (.string D) W := fun W => by
            rw [run_slice_string (P := Tryd.prog) W 9 abc .i64 .i64 (r : Int) ((r : Int) + 1) Tryd.underlying9 (by omega) (by omega) (by have h26 : abc.size = 26 := rfl; rw [h26]; omega), hD]
            rfl
          have hD1 : D.size = 1 := hD ▸ (abc_let r (by omega)).1
          have HDL := Lib.hid (show Lets D from hD ▸ (abc_let r (by omega)).2)
          have HQ := Lib.hid hq
          clear hr hq hD hD0
          go_wp2_with fail
          go_quiet (fail)
          have HR3 : Hid (Kd.string.R tStr (wr.drewN nq) w.heap.size (fun _ => True) u7 L) := Lib.hid (Kd.R_drewN HR2.out nq)
          have HB3 : Hid (Below w.heap.size w (wr.drewN nq)) := Lib.hid (pw_below_drewN HB2.out nq)
          generalize wr.drewN nq = wd at HR3 HB3 ⊢
          have hwq : IntKind.i64.wrap (q : Int) = (q : Int) := IntWalk.i64_in _ (by omega)
          have hwq' : wrap64 (q : Int) = (q : Int) := by unfold wrap64; omega
          have hszD : (s ++ D).size = s.size + 1 := by rw [ByteArray.size_append, hD1]
          have HSD := Lib.hid hszD
          clear hcut htm hszD
          go_wp2_with fail
          refine ⟨⟨s ++ D, q, rfl, rfl, by rw [HSD.out]; have := HH.out.2; omega, Lib.hid ⟨lets_app HP.out.1 HDL.out, .inr (by rw [HSD.out]; omega), by rw [HSD.out, HQ.out]; exact HH.out.1⟩, HR3, HB3⟩, by simp [intOf]; omega⟩
        · obtain rfl : x = 0 := by omega
          have HW := Lib.hid (show Word s from ⟨hsz, HP.out.2.1.elim (fun h => absurd h (by omega)) id, HP.out.1⟩)
          have hszr : w.heap.size ≤ wr.heap.size := HB2.out.size
          go_wp2_with (at_builtin; refine kapp (w0 := w) Kd.string w.heap.size rfl _ _ 34 9 (.string ⟨#[]⟩) 16 rfl Tryd.underlying34 (by kernel_rfl) rfl (by decide) (by decide) _ L s [.string s] (fun _ => True) (fun _ => False) _ rfl rfl (by intro j u hj; rw [cell_of_heap (heap_new _ _)]; simpa using hj) rfl (fun _ h => h.elim) (fun _ _ => trivial) (Kd.R_alloc HR2.out _) (HB2.out.alloc hszr _) (by simp; omega) ?hl ?_)
          case hl => omega
          intro v1 w3 hR3 hB3 hg3 hat3
          have HR3 := Lib.hid hR3
          have HB3 := Lib.hid hB3
          clear hR3 hB3 hg3 hat3
          go_wp2_with fail
          refine ⟨⟨k + 1, L ++ [s], by omega, by go_num, by simp [hLk], Lib.hid (fun y hy => (List.mem_append.1 hy).elim (HWD.out y) (fun h => List.mem_singleton.1 h ▸ HW.out)), HR3, HB3⟩, by simp [intOf]; omega⟩
    · obtain rfl : k = n := by omega
      have HL := Lib.hid hLk
      obtain ⟨A1, c1, rfl, hlc, hC1⟩ := Kd.R_reads HR.out
      have HC1 := Lib.hid hC1
      clear hC1 hlc hLk
      go_wp2_with fail
      refine (sorted_any A1 c1 L wr HC1.out (by have := HL.out; omega) (by have := HL.out; omega)).mono ?_
      rintro e w5 ⟨v, rfl, hR5, hB5⟩
      have HR5 := Lib.hid (Kd.R_lower hR5 HB.out.size)
      have HB5 := Lib.hid (HB.out.trans (hB5.mono HB.out.size))
      clear hR5 hB5
      go_wp2_with fail
      go_ret
      exact ⟨L, HL.out, HWD.out, _, rfl, HR5.out, HB5.out⟩
end Go.Proofs.YtjifoimkjgepcaaDoor.Da

/-
  Plain: many words sorted are keys; what a trie of them answers to them, and to them with a sign behind.
-/
set_option linter.unusedVariables false
set_option linter.unusedSimpArgs false
namespace Go.Proofs.YtjifoimkjgepcaaDoor.Da
open Go.RowKit Go.ChangeShapes Go.Proofs.YtjifoimkjgepcaaDoor.K Go.Proofs.YtjifoimkjgepcaaDoor.Z Go.Proofs.YtjifoimkjgepcaaDoorW.PrintWords

theorem bytesLess_lt : ∀ (x y : List UInt8), Op.bytesLess x y = true → x < y
  | [], [], h => by simp [Op.bytesLess] at h
  | [], b :: y, h => by simp
  | a :: x, [], h => by simp [Op.bytesLess] at h
  | a :: x, b :: y, h => by
    simp only [Op.bytesLess, Bool.or_eq_true, Bool.and_eq_true, decide_eq_true_eq, beq_iff_eq] at h
    rw [List.cons_lt_cons_iff]
    rcases h with h | ⟨rfl, h⟩
    · exact .inl h
    · exact .inr ⟨rfl, bytesLess_lt x y h⟩
theorem le_ltB {a b : ByteArray} (h : a.data.toList ≤ b.data.toList) : ltB b a = false := by
  unfold ltB
  rw [ByteArray.toList_eq, ByteArray.toList_eq]
  cases hb : Op.bytesLess b.data.toList a.data.toList
  · rfl
  · exact absurd (bytesLess_lt _ _ hb) (List.not_lt.2 h)
theorem sortS_asc (xs : List ByteArray) : (sortS xs).Pairwise fun a b => ltB b a = false := by
  unfold sortS
  rw [List.pairwise_map]
  have h := List.pairwise_mergeSort (le := fun x y : List UInt8 => decide (x ≤ y)) (fun a b c h1 h2 => by
    simp only [decide_eq_true_eq] at h1 h2 ⊢
    exact List.le_trans h1 h2) (fun a b => by
    simp only [Bool.or_eq_true, decide_eq_true_eq]
    exact List.le_total a b) (xs.map (·.data.toList))
  exact h.imp fun {a b} hab => le_ltB (by simpa using hab)
theorem sortS_adj (xs : List ByteArray) {k : Nat} (h : k + 1 < xs.length) : ltB (kAt (sortS xs) (k + 1)) (kAt (sortS xs) k) = false := by
  have hl := sortS_length xs
  rw [kAt_eq (by omega), kAt_eq (by omega)]
  exact List.pairwise_iff_getElem.1 (sortS_asc xs) k (k + 1) (by omega) (by omega) (by omega)
theorem kApp {a b : List ByteArray} {j : Nat} : kAt (a ++ b) j = if j < a.length then kAt a j else kAt b (j - a.length) := kAt_append
/-- What the loop over ascending texts leaves. -/
structure DdOk (S : List ByteArray) (k : Nat) : Prop where
  sub : ∀ s ∈ ddS S k, s ∈ S.take k
  last : 0 < k → 0 < (ddS S k).length ∧ kAt (ddS S k) ((ddS S k).length - 1) = kAt S (k - 1)
  asc : ∀ i, i + 1 < (ddS S k).length → ltB (kAt (ddS S k) (i + 1)) (kAt (ddS S k) i) = false ∧ ((kAt (ddS S k) (i + 1)).toList == (kAt (ddS S k) i).toList) = false
theorem toList_inj {a b : ByteArray} (h : (a.toList == b.toList) = true) : a = b := ba_toList (by simpa using h)
theorem dd_ok (S : List ByteArray) (hS : ∀ k, k + 1 < S.length → ltB (kAt S (k + 1)) (kAt S k) = false) : ∀ k, k ≤ S.length → DdOk S k
  | 0, _ => ⟨fun s h => by simp [ddS] at h, fun h => absurd h (by omega), fun i h => by simp [ddS] at h⟩
  | k + 1, hk => by
    have ih := dd_ok S hS k (by omega)
    have htake : S.take (k + 1) = S.take k ++ [kAt S k] := by rw [List.take_succ_eq_append_getElem (by omega), kAt_eq (by omega)]
    by_cases hc : k = 0 ∨ ((kAt S k).toList == (kAt S (k - 1)).toList) = false
    · have e : ddS S (k + 1) = ddS S k ++ [kAt S k] := by rw [ddS, if_pos hc]
      refine ⟨?_, ?_, ?_⟩
      · rw [e, htake]
        intro s hs
        rcases List.mem_append.1 hs with hs | hs
        · exact List.mem_append_left _ (ih.sub s hs)
        · exact List.mem_append_right _ hs
      · intro _
        rw [e]
        refine ⟨by simp, ?_⟩
        rw [kApp, List.length_append, if_neg (by simp)]
        simp [kAt]
      · intro i hi
        rw [e] at hi ⊢
        rw [List.length_append, List.length_singleton] at hi
        rw [kApp, kApp]
        by_cases hi2 : i + 1 < (ddS S k).length
        · rw [if_pos hi2, if_pos (by omega)]
          exact ih.asc i hi2
        · have hi3 : i + 1 = (ddS S k).length := by omega
          rw [if_neg hi2, if_pos (by omega), hi3, Nat.sub_self, show kAt [kAt S k] 0 = kAt S k from rfl]
          have hk0 : 0 < k := by
            rcases Nat.eq_zero_or_pos k with rfl | h
            · simp [ddS] at hi3
            · exact h
          have hl := (ih.last hk0).2
          rw [← hi3, Nat.add_sub_cancel] at hl
          rw [hl]
          obtain ⟨m, rfl⟩ : ∃ m, k = m + 1 := ⟨k - 1, by omega⟩
          exact ⟨hS m (by omega), hc.elim (fun h => absurd h (by omega)) id⟩
    · have e : ddS S (k + 1) = ddS S k := by rw [ddS, if_neg hc]
      have hk0 : k ≠ 0 := fun h => hc (.inl h)
      have heq : kAt S k = kAt S (k - 1) := toList_inj (by
        cases hb : ((kAt S k).toList == (kAt S (k - 1)).toList)
        · exact absurd (.inr hb) hc
        · rfl)
      refine ⟨?_, ?_, ?_⟩
      · rw [e, htake]
        exact fun s hs => List.mem_append_left _ (ih.sub s hs)
      · intro _
        rw [e, Nat.add_sub_cancel, heq]
        exact ih.last (by omega)
      · rw [e]
        exact ih.asc
theorem word_noZ {s : ByteArray} (h : Lets s) : noZ s := by
  intro a ha
  obtain ⟨b, hb, rfl⟩ := List.mem_map.1 ha
  have := (h b hb).1
  have : (97 : UInt8).toNat ≤ b.toNat := UInt8.le_iff_toNat_le.1 this
  have e : (97 : UInt8).toNat = 97 := rfl
  omega
/-- Many words, sorted, each once, are keys. -/
theorem dd_ord {L : List ByteArray} (hL : ∀ s ∈ L, Word s) (hn : 1 ≤ L.length) : Ord (ddS (sortS L) L.length) true ∧ ∀ s ∈ ddS (sortS L) L.length, Word s := by
  have hl := sortS_length L
  have h := dd_ok (sortS L) (fun k hk => sortS_adj L (by omega)) L.length (by omega)
  have hw : ∀ s ∈ ddS (sortS L) L.length, Word s := fun s hs => hL s ((sortS_perm L).mem_iff.1 (List.mem_of_mem_take (h.sub s hs)))
  refine ⟨⟨fun e => by have := (h.last (by omega)).1; rw [e] at this; simp at this, fun i hi => ?_⟩, hw⟩
  have hwi := hw _ (at_key hi)
  refine ⟨?_, word_noZ hwi.2.2, fun h0 => ?_⟩
  · have := hwi.2.1
    cases he : (kAt (ddS (sortS L) L.length) i).toList.isEmpty
    · rfl
    · exfalso
      rw [ByteArray.toList_eq, List.isEmpty_iff] at he
      have : (kAt (ddS (sortS L) L.length) i).data.toList.length = 0 := by rw [he]; rfl
      rw [Array.length_toList] at this
      have h3 : (kAt (ddS (sortS L) L.length) i).size = 0 := this
      omega
  · obtain ⟨m, rfl⟩ : ∃ m, i = m + 1 := ⟨i - 1, by omega⟩
    exact ⟨(h.asc m hi).1, fun _ => (h.asc m hi).2⟩
end Go.Proofs.YtjifoimkjgepcaaDoor.Da

/-
  Plain: the answers of a trie of words to its keys, and to them with a sign behind.
-/
set_option linter.unusedVariables false
set_option linter.unusedSimpArgs false
namespace Go.Proofs.YtjifoimkjgepcaaDoor.Da
open Go.RowKit Go.ChangeShapes Go.Proofs.YtjifoimkjgepcaaDoor.K Go.Proofs.YtjifoimkjgepcaaDoor.Z Go.Proofs.YtjifoimkjgepcaaDoorW.PrintWords

/-- A text with a sign behind it. -/
def mark (s : ByteArray) : ByteArray := s ++ ⟨#[33]⟩
theorem bl_mark (s : ByteArray) : bl (mark s) = bl s ++ [33] := by
  unfold bl mark
  rw [ByteArray.data_append, Array.toList_append, List.map_append]
  rfl
theorem mark_size (s : ByteArray) : (mark s).size = s.size + 1 := by unfold mark; rw [ByteArray.size_append]; rfl
theorem hits_snoc (a : Nat) : ∀ (p : List Nat) (ks : Ks) (i : Nat), hitsF ks (p ++ [a]) i = hitsF ks p i ++ hitAt (walkK (p ++ [a]) ks) (i + p.length + 1)
  | [], ks, i => by simp [hitsF, walkK]
  | c :: p, ks, i => by
    rw [List.cons_append, hitsF, hitsF, hits_snoc a p, List.append_assoc, walkK, List.length_cons, show i + 1 + p.length + 1 = i + (p.length + 1) + 1 by omega]
theorem first_at {K : List ByteArray} {I : List Int} (ho : Ord K true) {k : Nat} (hk : k < K.length) : firstE (walkK (bl (kAt K k)) (ksAll K I)) = some (idAt I k) := by
  have hfd : ((ksAll K I).find? fun x => decide (x.1 = bl (kAt K k))) = some (bl (kAt K k), idAt I k) := by
    unfold ksAll ksOf
    rw [List.find?_map]
    have hr : (List.range K.length).find? ((fun x : List Nat × Int => decide (x.1 = bl (kAt K k))) ∘ fun j => ((bl (kAt K j)).drop 0, idAt I j)) = some k := by
      rw [List.find?_range_eq_some]
      refine ⟨by simp, by simp; omega, fun j hj => ?_⟩
      have := ho.ne hj hk
      simp only [Function.comp, List.drop_zero, Bool.not_eq_eq_eq_not, Bool.not_true, decide_eq_false_iff_not]
      exact fun e => this (bl_inj e)
    rw [hr]
    simp
  rw [firstE_walk, hfd]
  rfl
theorem find_at {K : List ByteArray} {I : List Int} (ho : Ord K true) {k : Nat} (hk : k < K.length) : findF (ksAll K I) (bl (kAt K k)) = (idAt I k, true) :=
  find_first ho hk (Nat.le_refl k) (fun j h1 h2 => by rw [show j = k by omega]) (by
    rcases Nat.eq_zero_or_pos k with h | h
    · exact .inl h
    · exact .inr (ho.ne (by omega) hk))
theorem long_at {K : List ByteArray} {I : List Int} (ho : Ord K true) {k : Nat} (hk : k < K.length) : lastF (hitsF (ksAll K I) (bl (kAt K k)) 0) = (idAt I k, true) := by
  have hne := empty_toList (ho.2 k hk).1
  obtain ⟨p, a, hpa⟩ : ∃ p a, bl (kAt K k) = p ++ [a] := ⟨_, _, (List.dropLast_concat_getLast hne).symm⟩
  have hf := first_at (I := I) ho hk
  rw [hpa] at hf ⊢
  rw [hits_snoc]
  unfold hitAt lastF
  rw [hf]
  simp
theorem mark_none {K : List ByteArray} {I : List Int} (hw : ∀ s ∈ K, Word s) (t : List Nat) : walkK (t ++ [33]) (ksAll K I) = [] := by
  rw [List.eq_nil_iff_forall_not_mem]
  rintro ⟨r, id⟩ hx
  obtain ⟨j, hj, e⟩ := mem_ks.1 (mem_walkK.1 hx)
  injection e with e1 e2
  have h33 : 33 ∈ bl (kAt K j) := by rw [← e1]; simp
  obtain ⟨b, hb, h2⟩ := List.mem_map.1 h33
  have h3 : (97 : UInt8).toNat ≤ b.toNat := UInt8.le_iff_toNat_le.1 ((hw _ (at_key hj)).2.2 b hb).1
  have e4 : (97 : UInt8).toNat = 97 := rfl
  omega
theorem find_mark {K : List ByteArray} {I : List Int} (hw : ∀ s ∈ K, Word s) (s : ByteArray) : findF (ksAll K I) (bl (mark s)) = (0, false) := by
  unfold findF
  rw [bl_mark, if_neg (by simp), if_pos (mark_none hw _)]
theorem hits_mark {K : List ByteArray} {I : List Int} (hw : ∀ s ∈ K, Word s) (s : ByteArray) : hitsF (ksAll K I) (bl (mark s)) 0 = hitsF (ksAll K I) (bl s) 0 := by
  rw [bl_mark, hits_snoc, mark_none hw]
  simp [hitAt, firstE]
/-- The identifiers: sevens. -/
def sevens (n : Nat) : List Int := (List.range n).map fun (i : Nat) => 7 * (i : Int)
theorem sevens_length (n : Nat) : (sevens n).length = n := by simp [sevens]
theorem sevens_at {n k : Nat} (h : k < n) : idAt (sevens n) k = 7 * (k : Int) := by
  rw [idAt_eq (by rw [sevens_length]; exact h)]
  simp [sevens]
theorem sevens_succ (n : Nat) : sevens (n + 1) = sevens n ++ [7 * (n : Int)] := by simp [sevens, List.range_succ]
theorem sum_words {K : List ByteArray} (hw : ∀ s ∈ K, Word s) : sumL K ≤ 18 * K.length := by
  induction K with
  | nil => simp [sumL]
  | cons x r ih =>
    have h1 := ih (fun s hs => hw s (List.mem_cons_of_mem _ hs))
    have h2 := (hw x (List.mem_cons_self ..)).1
    simp only [sumL, List.length_cons]
    omega
theorem many_keys {K : List ByteArray} (ho : Ord K true) (hw : ∀ s ∈ K, Word s) (hn : K.length ≤ 400) : Keys K (sevens K.length) :=
  keys_of' ho (fun x hx => by
    obtain ⟨i, hi, rfl⟩ := List.mem_map.1 hx
    have : i < K.length := by simpa using hi
    omega) (sevens_length _) (by omega) (fun s hs => by have := (hw s hs).1; omega) (by have := sum_words hw; omega)
/-- The inputs of the law. -/
def asks (K : List ByteArray) : List ByteArray := K ++ K.map mark
theorem asks_ok {K : List ByteArray} (hw : ∀ s ∈ K, Word s) (hn : K.length ≤ 400) : Asked (asks K) := by
  refine ⟨by simp [asks]; omega, fun s hs => ?_⟩
  rcases List.mem_append.1 hs with hs | hs
  · exact ⟨word_noZ (hw s hs).2.2, by have := (hw s hs).1; omega⟩
  · obtain ⟨t, ht, rfl⟩ := List.mem_map.1 hs
    refine ⟨fun a ha => ?_, by rw [mark_size]; have := (hw t ht).1; omega⟩
    rw [bl_mark] at ha
    rcases List.mem_append.1 ha with ha | ha
    · exact word_noZ (hw t ht).2.2 a ha
    · rw [List.mem_singleton.1 ha]; decide
/-- What the law compares. -/
theorem many_ans {K : List ByteArray} (ho : Ord K true) (hw : ∀ s ∈ K, Word s) {i : Nat} (hi : i < K.length) :
    ((asks K).map (ansF (ksAll K (sevens K.length))))[i]? = some ((7 * (i : Int), true), (7 * (i : Int), true), hitsF (ksAll K (sevens K.length)) (bl (kAt K i)) 0, hitsF (ksAll K (sevens K.length)) (bl (kAt K i)) 0) ∧
    ∃ z, ((asks K).map (ansF (ksAll K (sevens K.length))))[K.length + i]? = some ((0, false), z, hitsF (ksAll K (sevens K.length)) (bl (kAt K i)) 0, hitsF (ksAll K (sevens K.length)) (bl (kAt K i)) 0) := by
  constructor
  · rw [List.getElem?_map, asks, List.getElem?_append_left hi, List.getElem?_eq_getElem hi, ← kAt_eq hi]
    simp only [Option.map_some, ansF]
    rw [find_at ho hi, long_at ho hi, sevens_at hi]
  · refine ⟨lastF (hitsF (ksAll K (sevens K.length)) (bl (kAt K i)) 0), ?_⟩
    rw [List.getElem?_map, asks, List.getElem?_append_right (by omega), show K.length + i - K.length = i by omega, List.getElem?_map, List.getElem?_eq_getElem hi, ← kAt_eq hi]
    simp only [Option.map_some, ansF]
    rw [find_mark hw, hits_mark hw]
set_option maxHeartbeats 1000000 in
set_option maxRecDepth 5000 in
theorem sameHit_quiet (A B : Option Addr) (c c' : Nat) (xs : List Hit) (w : World) (hC : kHit.C w A xs.length xs) (hD : kHit.C w B xs.length xs) :
    Calls Tryd.prog 20 #[.slice A xs.length c, .slice B xs.length c'] w fun e w' => e = .returned (.bool true) ∧ ∃ n, w' = w.drewN n := by
  have hm := hC.2.1
  have HC := Lib.hid hC
  have HD := Lib.hid hD
  clear hC hD
  go_enter Tryd.func20, Tryd.ntmps20
  go_wp2
  go_loopw [13] (fun i wr => ∃ k : Nat, k ≤ xs.length ∧ i = .int .i64 k ∧ Hid (∃ n, wr = w.drewN n)) (fun i _ => xs.length - (intOf i).toNat)
  case atStart => exact ⟨0, Nat.zero_le _, rfl, Lib.hid ⟨0, rfl⟩⟩
  case round =>
    obtain ⟨k, hk, rfl, hq⟩ := hrel
    by_cases hlt : k < xs.length
    · obtain ⟨q, hq'⟩ := hq.out
      have hbel : Below w.heap.size w wr := hq' ▸ pw_below_drewN (Below.refl _ w) q
      obtain ⟨ad, rfl, h0, h1⟩ := hits_at (Kd.C_below HC.out hbel) k hlt
      obtain ⟨bd, rfl, g0, g1⟩ := hits_at (Kd.C_below HD.out hbel) k hlt
      have p0 : (0 : Int) ≤ k := by omega
      have p1 : (k : Int) < (xs.length : Int) := by omega
      have heq := eqHit_run xs[k].1 xs[k].2
      clear hq' hbel
      go_wp2
      go_quiet (fail)
      go_wp2
      exact ⟨⟨k + 1, by omega, by go_num, Lib.hid (hq.out.elim fun q hq => ⟨q + nq, by rw [hq, World.drewN_drewN]⟩)⟩, by simp [intOf]; omega⟩
    · go_wp2
      go_ret
      exact ⟨rfl, hq.out⟩
end Go.Proofs.YtjifoimkjgepcaaDoor.Da
