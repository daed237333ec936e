/-
  The walk of trie.Read where too few bytes are left.
-/
import Derived.Test.YtjifoimkjgepcaaDoorRg
import Derived.Test.YtjifoimkjgepcaaDoorDm
set_option linter.unusedVariables false
set_option linter.unusedSimpArgs false
namespace Go.Proofs.YtjifoimkjgepcaaDoor.Z
open Go.RowKit Go.Proofs.YtjifoimkjgepcaaDoor.K Go.Proofs.YtjifoimkjgepcaaDoorW.PrintWords

theorem add_add' (ad : Addr) (i j : Nat) : (ad.add i).add j = ad.add (i + j) := by
  unfold Addr.add
  by_cases hi : i = 0
  · subst hi; simp
  · by_cases hj : j = 0
    · subst hj; simp [hi]
    · have : i + j ≠ 0 := by omega
      simp [hi, hj, this, Nat.add_assoc]
theorem Src.keeps {S : Nat → Prop} {w w' : World} {ad : Addr} {xs : List Int} (h : Src w ad xs) (k : Keeps S w w') (hs : ¬ S ad.block) : Src w' ad xs := by
  intro j x hx
  have h1 := h j x hx
  have hb : (ad.add j).block = ad.block := by unfold Addr.add; split <;> rfl
  have hlt := World.block_lt_of_cell? w _ h1
  have := k.block _ hlt (by rw [hb]; exact hs)
  unfold World.cell? at h1 ⊢
  rw [this]
  exact h1
theorem Src.left {w : World} {ad : Addr} {bs : List Int} {rb L pos : Nat} (h : Src w ad bs) (hl : bs.length = L) (had : ad.block ≠ rb) : Left (some ad) rb L pos w := fun hp =>
  ⟨ad, nums .u8 (bs.drop pos), rfl, had, by simp [nums, hl], one_nums _ _, fun j v hj => by
    rw [add_add']
    simp only [nums, List.getElem?_map, List.getElem?_drop, Option.map_eq_some_iff] at hj
    obtain ⟨x, hx, rfl⟩ := hj
    exact h _ x hx⟩
theorem left_none {w : World} {A : Option Addr} {rb L pos : Nat} (h : L ≤ pos) : Left A rb L pos w := fun hp => absurd hp (by omega)
theorem Src.num8 {w : World} {ad : Addr} {bs : List Int} {N v : Int} (h : Src w ad bs) (hN : Num8 bs N) (hv : N = v) : ∀ (j : Nat) (x : Value), (nums .u8 (leB v 8))[j]? = some x → w.cell? ((ad.add 0).add j) = some x := by
  subst hv
  intro j x hx
  rw [add_add', Nat.zero_add]
  have hj : j < 8 := by
    have := (List.getElem?_eq_some_iff.1 hx).1
    simpa [nums, leB] using this
  rw [leB_get _ _ _ hj] at hx
  have hw : IntKind.u64.wrap N = N := by have := hN.1; rw [IntKind.wrap_u64]; omega
  rw [hw] at hx
  rw [h j _ (hN.2 j hj)]
  exact hx
theorem Src.num4 {w : World} {ad : Addr} {bs : List Int} {v : Int} {pos : Nat} (h : Src w ad bs) (hv : ∀ k, k < 4 → bs[pos + k]? = some (IntKind.u64.wrap v / 2 ^ (8 * k) % 256)) : ∀ (j : Nat) (x : Value), (nums .u8 (leB v 4))[j]? = some x → w.cell? ((ad.add pos).add j) = some x := by
  intro j x hx
  rw [add_add']
  have hj : j < 4 := by
    have := (List.getElem?_eq_some_iff.1 hx).1
    simpa [nums, leB] using this
  rw [leB_get _ _ _ hj] at hx
  rw [h _ _ (hv j hj)]
  exact hx
/-- A trie that was not read. -/
def ReadRet (e : Ending) (S : Nat → Prop) (w w' : World) : Prop := ∃ (v : Value) (t : Addr), e = .returned (.tuple #[v, .iface tEs (.pointer (some t))]) ∧ Keeps S w w'
abbrev fRead : Nat := 27
set_option maxHeartbeats 1000000 in
set_option maxRecDepth 5000 in
theorem trieRead_small (rb L cS : Nat) (A : Option Addr) (prev : Int) (p q : Addr) (w : World) (hr : w.heap[rb]? = some (.cells #[.slice A L cS, .int .i64 (0 : Nat), .int .i64 prev] tRd (0, 0))) (hL8 : L < 8) (hL : L ≤ cS) (hcS : L ≤ maxLen) (hleft : Left A rb L 0 w) (hE : Errs p q w) :
    Calls Tryd.prog 27 #[.iface tpRd (.pointer (some ⟨rb, 0, none⟩))] w fun e w' => ReadRet e (fun i => i = rb) w w' := by
  obtain ⟨w1, hw1⟩ : ∃ w1, w1 = w.alloc (.cells #[.int .i64 0] 2) := ⟨_, rfl⟩
  have hk1 : Keeps (fun i => i = rb) w w1 := hw1 ▸ Keeps.of_below (below_alloc (Below.refl _ w) _)
  have hr1 : w1.heap[rb]? = _ := hw1 ▸ blk_alloc hr _
  have hb1 : w1.heap[w.heap.size]? = some (.cells #[.int .i64 0] 2 (0, 0)) := hw1 ▸ heap_alloc_new w _
  have hl1 : Left A rb L 0 w1 := fun h => by
    obtain ⟨ad, cs, h1, h2, h3, h4, h5⟩ := hleft h
    exact ⟨ad, cs, h1, h2, h3, h4, fun j v hj => hw1 ▸ (World.cell?_alloc_lt _ _ _ (World.block_lt_of_cell? w _ (h5 j v hj))).trans (h5 j v hj)⟩
  have H0 := Lib.hid (short_i64 rb L cS 0 w.heap.size 0 2 A prev p q #[.int .i64 0] 0 w1 hr1 hb1 rfl (Nat.zero_le _) (by omega) hL hcS hl1 (hE.keeps hk1 (fun h => absurd (h ▸ hE.lt.1) (by
    intro _
    have hcE := hE.1
    rw [h, cell_block hr 0] at hcE
    simp at hcE)) (fun h => by
    have hcE := hE.2
    rw [h, cell_block hr 0] at hcE
    simp at hcE)))
  have HK := Lib.hid hk1
  clear hr hleft hE hk1 hr1 hb1 hl1
  go_enter Tryd.func27, Tryd.ntmps27
  go_wp2_with fail
  rw [← hw1]
  refine H0.out.mono ?_
  rintro e w2 ⟨t, rfl, hk2⟩
  have HK2 := Lib.hid (HK.out.trans hk2)
  clear hk2
  go_wp2_with fail
  go_ret2
  exact ⟨_, t, rfl, HK2.out.trans (Keeps.of_below (below_alloc (Below.refl _ w2) _))⟩
theorem Errs.off {p q : Addr} {w : World} (h : Errs p q w) {b : Nat} {cs : Array Value} {T : Nat} {x : Value} (hr : w.heap[b]? = some (.cells cs T (0, 0))) (h0 : cs[0]? = some x) (hx : ∀ t, x ≠ .iface tEs (.pointer (some t))) : gE ≠ b ∧ gU ≠ b := by
  refine ⟨?_, ?_⟩
  · intro e
    have hc := h.1
    rw [e, cell_block hr 0, h0] at hc
    exact hx _ (Option.some.inj hc)
  · intro e
    have hc := h.2
    rw [e, cell_block hr 0, h0] at hc
    exact hx _ (Option.some.inj hc)
open Go.Proofs.YtjifoimkjgepcaaDoor.Da in
set_option maxHeartbeats 2000000 in
set_option maxRecDepth 5000 in
theorem trieRead_few (rb L cS : Nat) (ad : Addr) (prev : Int) (p q : Addr) (bs : List Int) (N : Nat) (w : World) (hr : w.heap[rb]? = some (.cells #[.slice (some ad) L cS, .int .i64 (0 : Nat), .int .i64 prev] tRd (0, 0)))
    (hL8 : 8 ≤ L) (hLm : L ≤ 2000) (hL : L ≤ cS) (hcS : L ≤ maxLen) (had : ad.block ≠ rb) (hbl : bs.length = L) (hbr : ∀ x ∈ bs, 0 ≤ x ∧ x < 256) (hS : Src w ad bs) (hN : Num8 bs N) (hNL : N ≤ L) (hfew : L - 8 < 8 * N) (hE : Errs p q w) :
    Calls Tryd.prog 27 #[.iface tpRd (.pointer (some ⟨rb, 0, none⟩))] w fun e w' => ReadRet e (fun i => i = rb) w w' := by
  obtain ⟨hgE1, hgU1⟩ := hE.off hr rfl (fun t h => by cases h)
  have HKE := Lib.hid (show ∀ wr, Keeps (fun i => i = rb) w wr → Errs p q wr from fun wr k => hE.keeps k hgE1 hgU1)
  have HKS := Lib.hid (show ∀ wr, Keeps (fun i => i = rb) w wr → Src wr ad bs from fun wr k => hS.keeps k had)
  obtain ⟨sb, hsb⟩ : ∃ sb, sb = w.heap.size := ⟨_, rfl⟩
  obtain ⟨w1, hw1⟩ : ∃ w1, w1 = w.alloc (.cells #[.int .i64 0] 2) := ⟨_, rfl⟩
  have hk1 : Keeps (fun i => i = rb) w w1 := hw1 ▸ Keeps.of_below (below_alloc (Below.refl _ w) _)
  have hr1 : w1.heap[rb]? = _ := hw1 ▸ blk_alloc hr _
  have hb1 : w1.heap[sb]? = some (.cells #[.int .i64 0] 2 (0, 0)) := by rw [hsb, hw1]; exact heap_alloc_new w _
  have hrs : rb < sb := hsb ▸ lt_of_heap hr
  have HSB := Lib.hid hsb
  have H0 := Lib.hid (read_i64 rb L cS 0 sb 0 2 ad #[.int .i64 0] 0 N w1 (by omega) ⟨prev, hr1⟩ hb1 rfl (by decide) (by omega) hL hcS had ((HKS.out w1 hk1).num8 hN rfl))
  have HK := Lib.hid hk1
  have HBR := Lib.hid hbr
  have HBL := Lib.hid hbl
  have hW1 := Lib.hid hw1
  have hmk : ∀ W : World, (Instr.makeSlice tDA (.int .i64 N) (.int .i64 N)).run Tryd.prog W = .ok (.slice (some ⟨W.heap.size, 0, none⟩) N N) (W.alloc (.cells (cellsOf (zeroA N)) tEl)) := fun W => make_da N (by omega) W
  clear hr hS hE hk1 hr1 hb1 hbr hbl hw1 hN hsb
  go_enter Tryd.func27, Tryd.ntmps27
  go_wp2_with fail
  rw [← HSB.out, ← hW1.out]
  refine H0.out.mono ?_
  rintro e w2 ⟨rfl, hr2, hv2, hk2⟩
  have HK2 := Lib.hid (((HK.out.mono (T := fun i => i = rb ∨ i = sb) (fun i _ h => .inl h)).trans hk2).mono (T := fun i => i = rb) (fun i hi h => by rcases h with h | h; exact h; have := HSB.out; omega))
  have hcs : w2.cell? ⟨sb, 0, none⟩ = some (.int .i64 N) := (cell_block hv2 0).trans rfl
  obtain ⟨d, hd⟩ : ∃ d, d = w2.heap.size := ⟨_, rfl⟩
  obtain ⟨w3, hw3⟩ : ∃ w3, w3 = w2.alloc (.cells (cellsOf (zeroA N)) tEl) := ⟨_, rfl⟩
  have hk3 : Keeps (fun i => i = rb) w w3 := hw3 ▸ HK2.out.trans (Keeps.of_below (below_alloc (Below.refl _ w2) _))
  have hr3 : Rdr rb ad L cS 8 w3 := by
    obtain ⟨pr, h⟩ := hr2
    exact ⟨pr, hw3 ▸ blk_alloc h _⟩
  have hd3 : w3.heap[d]? = some (.cells (cellsOf (zeroA N)) tEl (0, 0)) := by rw [hd, hw3]; exact heap_alloc_new w2 _
  have hrd : rb < d := hd ▸ lt_of_heap hr2.choose_spec
  have hdw : w.heap.size ≤ d := hd ▸ HK2.out.size
  have HW3 := Lib.hid hw3
  have HD := Lib.hid hd
  have HK3 := Lib.hid hk3
  have HR3 := Lib.hid hr3
  have HD3 := Lib.hid hd3
  clear hr2 hv2 hk2 hw3 hd hk3 hr3 hd3 HK2 H0 HK
  go_wp2_with fail
  rw [← HD.out, ← HW3.out]
  go_loopw [20] (fun x wr => ∃ (i : Nat) (A : DA), x = .int .i64 i ∧ A.n = N ∧ 8 + 8 * i ≤ L ∧ Hid (wr.heap[d]? = some (.cells (cellsOf A) tEl (0, 0))) ∧ Hid (Rdr rb ad L cS (8 + 8 * i) wr) ∧ Hid (Keeps (fun i => i = rb) w wr)) (fun x _ => N - (intOf x).toNat)
  case atStart => exact ⟨0, zeroA N, rfl, rfl, by omega, HD3, HR3, HK3⟩
  case round =>
    obtain ⟨i, A, rfl, hAn, hil, HG, HR, HKw⟩ := hrel
    have hiN : i < N := by omega
    have hiN' : (i : Int) < (N : Int) := by omega
    have hiA : i < A.n := by omega
    have HA := Lib.hid hAn
    clear hAn
    have HE1 := Lib.hid (HKE.out wr HKw.out)
    have HS1 := Lib.hid (HKS.out wr HKw.out)
    by_cases h4 : L < 8 + 8 * i + 4
    · obtain ⟨pr, hpr⟩ := HR.out
      have H5 := Lib.hid (short_i32 rb L cS (8 + 8 * i) d (i * 2) tEl (some ad) pr p q (cellsOf A) _ wr hpr HG.out (cells_b A hiA) hil h4 hL hcS (HS1.out.left HBL.out had) HE1.out)
      clear hpr
      go_wp2_with fail
      refine H5.out.mono ?_
      rintro e w5 ⟨t, rfl, hk5⟩
      have HK5 := Lib.hid (HKw.out.trans hk5)
      clear hk5
      go_wp2_with fail
      go_ret2
      exact ⟨_, t, rfl, HK5.out⟩
    · obtain ⟨v, hv, hbv⟩ := num4_of bs (8 + 8 * i) (by rw [HBL.out]; omega) HBR.out
      have H5 := Lib.hid (read_i32 rb L cS (8 + 8 * i) d (i * 2) tEl ad (cellsOf A) _ v wr hv HR.out HG.out (cells_b A hiA) (by decide) (by omega) hL hcS had (HS1.out.num4 hbv))
      clear hbv
      go_wp2_with fail
      refine H5.out.mono ?_
      rintro e w5 ⟨rfl, hr5, hg5, hk5⟩
      rw [cells_set_b A hiA] at hg5
      have hk5' : Keeps (fun i => i = rb) w w5 := ((HKw.out.mono (T := fun i => i = rb ∨ i = d) (fun i _ h => .inl h)).trans hk5).mono (T := fun i => i = rb) (fun i hi h => by rcases h with h | h; exact h; omega)
      have HR5 := Lib.hid hr5
      have HG5 := Lib.hid hg5
      have HK5 := Lib.hid hk5'
      have HE5 := Lib.hid (HKE.out w5 hk5')
      have HS5 := Lib.hid (HKS.out w5 hk5')
      obtain ⟨A', hA'⟩ : ∃ A' : DA, A' = { A with b := upd A.b i v } := ⟨_, rfl⟩
      rw [← hA'] at HG5
      have hn' : A'.n = N := by rw [hA']; exact HA.out
      have HN' := Lib.hid hn'
      have hiA' : i < A'.n := by omega
      clear hr5 hg5 hk5 hk5' H5 hA' hn'
      by_cases h8 : L < 8 + 8 * i + 4 + 4
      · obtain ⟨pr, hpr⟩ := HR5.out
        have H6 := Lib.hid (short_i32 rb L cS (8 + 8 * i + 4) d (i * 2 + 1) tEl (some ad) pr p q (cellsOf A') _ w5 hpr HG5.out (cells_c A' hiA') (by omega) h8 hL hcS (HS5.out.left HBL.out had) HE5.out)
        clear hpr
        go_wp2_with fail
        refine H6.out.mono ?_
        rintro e w6 ⟨t, rfl, hk6⟩
        have HK6 := Lib.hid (HK5.out.trans hk6)
        clear hk6
        go_wp2_with fail
        go_ret2
        exact ⟨_, t, rfl, HK6.out⟩
      · obtain ⟨v', hv', hbv⟩ := num4_of bs (8 + 8 * i + 4) (by rw [HBL.out]; omega) HBR.out
        have H6 := Lib.hid (read_i32 rb L cS (8 + 8 * i + 4) d (i * 2 + 1) tEl ad (cellsOf A') _ v' w5 hv' HR5.out HG5.out (cells_c A' hiA') (by decide) (by omega) hL hcS had (HS5.out.num4 hbv))
        clear hbv
        go_wp2_with fail
        refine H6.out.mono ?_
        rintro e w6 ⟨rfl, hr6, hg6, hk6⟩
        rw [cells_set_c A' hiA'] at hg6
        have hk6' : Keeps (fun i => i = rb) w w6 := ((HK5.out.mono (T := fun i => i = rb ∨ i = d) (fun i _ h => .inl h)).trans hk6).mono (T := fun i => i = rb) (fun i hi h => by rcases h with h | h; exact h; omega)
        have HR6 := Lib.hid hr6
        have HG6 := Lib.hid hg6
        have HK6 := Lib.hid hk6'
        clear hr6 hg6 hk6 hk6' H6
        go_wp2_with fail
        exact ⟨⟨i + 1, { A' with c := upd A'.c i v' }, by go_num, HN'.out, by omega, HG6, by rw [show 8 + 8 * (i + 1) = 8 + 8 * i + 4 + 4 by omega]; exact HR6, HK6⟩, by simp [intOf]; omega⟩
end Go.Proofs.YtjifoimkjgepcaaDoor.Z
