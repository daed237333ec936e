/-
  The walk of expand; copy of elements of two cells.
-/
import Derived.Test.YtjifoimkjgepcaaDi
import Derived.Deep.RegionLaw
import Derived.Laws.CopyRow
set_option linter.unusedVariables false
set_option linter.unusedSimpArgs false
namespace Go.Proofs.Ytjifoimkjgepcaa.Da
open Go.RowKit Go.Proofs.Ytjifoimkjgepcaa.K Go.Proofs.YtjifoimkjgepcaaW.PrintWords

theorem run_copy_pairs (P : Program) (w : World) (dT sT ty elem : TypeId) (g dLen dCap : Nat) (a : Addr) (sLen sCap : Nat) (cur : Array Value) (t : TypeId) (cs : List Value) (n : Nat)
    (hu : P.underlying dT = some (.slice elem)) (hs : (P.info? elem).map (·.size) = some 2)
    (hg : w.heap[g]? = some (.cells cur t (0, 0))) (hn : n = Nat.min sLen dLen) (hcs : cs.length = n * 2)
    (hsrc : ∀ j v, cs[j]? = some v → w.cell? (a.add j) = some v) (hfit : cs.length ≤ cur.size) (h1 : ∀ v ∈ cs, v.oneCell' = true) :
    (Builtin.copy_ #[dT, sT] ty #[.slice (some ⟨g, 0, none⟩) dLen dCap, .slice (some a) sLen sCap]).run P w =
      .ok (goInt n) (w.setRow g (cs ++ cur.toList.drop cs.length).toArray) := by
  have hl := run_loadCells_list (P := P) w a cs hsrc
  have hst := run_storeCells_at P g 0 t cs 0 cur w hg (by simpa using hfit) h1
  cases hq : P.info? elem with
  | none => simp [hq] at hs
  | some i =>
    have hi : i.size = 2 := by simpa [hq] using hs
    rw [hcs] at hl
    simp [Builtin.copy_, run_underlying hu, Builtin.lenOf, Builtin.firstCells, sizeOf, typeInfo, hq, hi, ← hn, hl, hst]

/-- Block g alone may turn. -/
structure Only (g : Nat) (w w' : World) : Prop where
  os : w'.os = w.os
  tape : w'.tape = w.tape
  output : w'.output = w.output
  size : w'.heap.size = w.heap.size
  block : ∀ k, k ≠ g → w'.heap[k]? = w.heap[k]?
theorem Kp.only {dp g h : Nat} {a b c : World} (k : Kp dp g a b) (o : Only h b c) (hh : h = g ∨ h = dp ∨ a.heap.size ≤ h) : Kp dp g a c :=
  ⟨o.os.trans k.os, o.tape.trans k.tape, o.output.trans k.output, by rw [o.size]; exact k.size, fun i h1 h2 h3 => (o.block i (by omega)).trans (k.block i h1 h2 h3)⟩
/-- The first n cells of A, then zeros. -/
def padA (A : DA) (n N : Nat) : DA := ⟨N, fun i => if i < n then A.b i else 0, fun i => if i < n then A.c i else 0⟩
theorem pad_cells (A : DA) (n N : Nat) (h1 : n ≤ A.n) (h2 : n ≤ N) : ((cellsOf A).toList.take (n * 2) ++ (cellsOf (zeroA N)).toList.drop (n * 2)).toArray = cellsOf (padA A n N) := by
  apply Array.ext
  · simp [cells_size, padA, zeroA]; omega
  · intro j hj1 hj2
    have hj : j < 2 * N := by simpa [cells_size, padA] using hj2
    simp only [List.getElem_toArray]
    by_cases h : j < n * 2
    · rw [List.getElem_append_left (by simp [cells_size]; omega)]
      rw [List.getElem_take]
      have hk : j / 2 < n := by omega
      simp only [Array.getElem_toList, cellsOf, Array.getElem_ofFn, padA, hk, if_true]
    · rw [List.getElem_append_right (by simp [cells_size]; omega)]
      have hk : ¬ j / 2 < n := by omega
      simp only [List.getElem_drop, Array.getElem_toList, cellsOf, Array.getElem_ofFn, padA, zeroA, hk, if_false]
      split <;> split <;> rfl
theorem cells_one (A : DA) : ∀ v ∈ (cellsOf A).toList, v.oneCell' = true := by
  intro v hv
  obtain ⟨i, hi, rfl⟩ := List.mem_iff_getElem.1 hv
  simp only [Array.getElem_toList, cellsOf, Array.getElem_ofFn]
  split <;> rfl
/-- copy of double arrays as one step of a region that draws. -/
theorem step_copy_da {P : Program} {ops : Array Oper} {o : Oper} {a : Act} {w : World} {K : Act → World → Prop} {Q : Exit → Act → World → Prop} {E : Prop} (hgd : o.guard = none) (d s : Operand) (dT sT : TypeId)
    (ho : o.op = .call { callee := .builtin .copy, args := #[d, s], argTypes := #[dT, sT] }) (elem : TypeId) (hu : P.underlying dT = some (.slice elem)) (hsz : (P.info? elem).map (·.size) = some 2)
    (gd gs dLen dCap sLen sCap : Nat) (hd : a.eval d = .slice (some ⟨gd, 0, none⟩) dLen dCap) (hs : a.eval s = .slice (some ⟨gs, 0, none⟩) sLen sCap)
    (A : DA) (N n : Nat) (t t' : TypeId) (fr : Nat × Nat) (hn : n = Nat.min sLen dLen) (hgD : w.heap[gd]? = some (.cells (cellsOf (zeroA N)) t (0, 0))) (hgS : w.heap[gs]? = some (.cells (cellsOf A) t' fr)) (hA : n ≤ A.n) (hN : n ≤ N)
    (h : ∀ w', Hid (w'.heap[gd]? = some (.cells (cellsOf (padA A n N)) t (0, 0))) → Hid (Only gd w w') → K (a.put o.dst (goInt n)) w') :
    if Region.wanted o (yielded ops a.tmps) = true then Oper.wp P o a w K Q else E := by
  have hw : Region.wanted o (yielded ops a.tmps) = true := by simp [Region.wanted, hgd]
  rw [if_pos hw]
  have hrun := run_copy_pairs P w dT sT o.type elem gd dLen dCap ⟨gs, 0, none⟩ sLen sCap _ t ((cellsOf A).toList.take (n * 2)) n hu hsz hgD hn (by simp [cells_size]; omega)
    (fun j v hj => by
      rw [add_plain, cell_of_heap hgS]
      rw [List.getElem?_take] at hj
      split at hj
      · simpa using hj
      · cases hj)
    (by simp [cells_size, zeroA]; omega) (fun v hv => cells_one A v (List.mem_of_mem_take hv))
  unfold Oper.wp
  simp only [execOp, ho, resolve, invoke, builtin]
  simp [hd, hs, hrun, Result.andThen]
  refine h _ ?_ ?_
  · rw [setRow_heap w gd _ _ t _ hgD]
    have e : min (n * 2) (cellsOf A).size = n * 2 := by rw [cells_size]; omega
    rw [← pad_cells A n N hA hN, e]
    exact rfl
  · exact ⟨rfl, rfl, rfl, by simp [World.setRow], fun k hk => setRow_other w gd k _ hk⟩

/-- expand's array while its new cells up to k are laid. -/
def midA (A : DA) (N k : Nat) : DA := ⟨N * 2, fun i => if i < N then A.b i else if i < k then -((i : Int) - 1) else 0, fun i => if i < N then A.c i else if i < k then -((i : Int) + 1) else 0⟩
set_option maxHeartbeats 1000000 in
set_option maxRecDepth 100000 in
theorem expand_any (dp g : Nat) (A : DA) (M : Nat) (w : World) (ha : Arr dp g A w) (hi : Inv A M) :
    Calls Try.prog 117 #[.pointer (some ⟨dp, 0, none⟩)] w fun e w' => e = .returned (.tuple #[]) ∧ ∃ g', Arr dp g' (grown A) w' ∧ w.heap.size ≤ g' ∧ Kp dp g w w' := by
  obtain ⟨N, hN⟩ : ∃ N, N = A.n := ⟨_, rfl⟩
  have hsz := hi.size
  rw [← hN] at hsz
  have hmk : ∀ W : World, (Instr.makeSlice tDA (.int .i64 (N * 2)) (.int .i64 (N * 2))).run Try.prog W = .ok (.slice (some ⟨W.heap.size, 0, none⟩) (N * 2) (N * 2)) (W.alloc (.cells (cellsOf (zeroA (N * 2))) tEl)) := fun W => by
    have := make_da (N * 2) (by omega) W
    simpa using this
  have hv : w.cell? ⟨dp, 0, none⟩ = some (.slice (some ⟨g, 0, none⟩) N N) := by rw [hN]; exact ha.cv
  have HN := Lib.hid hN
  have HA := Lib.hid ha
  clear hN ha
  go_enter Try.func117, Try.ntmps117
  go_upto_region 4 with fail
  generalize hw1 : World.alloc (World.alloc w _) _ = w1
  obtain ⟨q, hq⟩ : ∃ q, q = w.heap.size := ⟨_, rfl⟩
  have hdl := lt_of_heap HA.out.var
  have hgl := lt_of_heap HA.out.arr
  have B1 : w1.heap[q]? = some (.cells #[.slice (some ⟨q + 1, 0, none⟩) (N * 2) (N * 2)] tDA (0, 0)) := by subst hw1 hq; exact heap_old (heap_new _ _) _
  have B2 : w1.heap[q + 1]? = some (.cells (cellsOf (zeroA (N * 2))) tEl (0, 0)) := by
    subst hw1 hq
    have := heap_new (w.alloc (.cells #[.slice (some ⟨w.heap.size + 1, 0, none⟩) (N * 2) (N * 2)] tDA)) (.cells (cellsOf (zeroA (N * 2))) tEl)
    rw [size_alloc] at this
    exact this
  have A1 : Arr dp g A w1 := by subst hw1; exact (HA.out.alloc _).alloc _
  have K1 : Hid (Kp dp g w w1) := Lib.hid (by subst hw1; exact ((Kp.refl dp g w).alloc _).alloc _)
  have hsz1 : w1.heap.size = q + 2 := by subst hw1 hq; simp
  have HSZ := Lib.hid hsz1
  have HQ := Lib.hid hq
  rw [← hq]
  clear hw1 hsz1 hmk hv
  have hqd : dp < q := by omega
  have hqg : g < q := by omega
  clear hq hdl hgl
  have hv : w1.cell? ⟨dp, 0, none⟩ = some (.slice (some ⟨g, 0, none⟩) N N) := by rw [HN.out]; exact A1.cv
  have hq1 : w1.cell? ⟨q, 0, none⟩ = some (.slice (some ⟨q + 1, 0, none⟩) (N * 2) (N * 2)) := by rw [cell_of_heap B1]; rfl
  have HB1 := Lib.hid B1
  have HB2 := Lib.hid B2
  have HA1 := Lib.hid A1
  clear B1 B2 A1
  go_cut [25] from 19 to 26 (fun v wx => v = .int .i64 N ∧ Hid (wx.heap[q + 1]? = some (.cells (cellsOf (padA A N (N * 2))) tEl (0, 0))) ∧ Hid (Only (q + 1) w1 wx))
  case first =>
    go_region_law (refine step_copy_da rfl (.tmp 21) (.tmp 24) 80 80 rfl tEl Try.underlying80 (by kernel_rfl) (q + 1) g (N * 2) (N * 2) N N rfl rfl A (N * 2) N tEl tEl (0, 0) (Nat.min_eq_left (by omega)).symm HB2.out HA1.out.arr (by rw [HN.out]; exact Nat.le_refl _) (by omega) ?_; intro w2 HG2 HO2)
    all_goals (go_wp2_with fail; go_meet; exact ⟨rfl, HG2, Lib.hid ⟨HO2.out.os, HO2.out.tape, HO2.out.output, HO2.out.size, HO2.out.block⟩⟩)
  case rest =>
    obtain ⟨rfl, HG2, HO2⟩ := hcut
    have A1 : Arr q (q + 1) (padA A N (N * 2)) wc := ⟨(HO2.out.block q (by omega)).trans HB1.out, HG2.out⟩
    have A0 : Arr dp g A wc := HA1.out.keep (HO2.out.block dp (by omega)) (HO2.out.block g (by omega))
    have K2 := Lib.hid (K1.out.only HO2.out (.inr (.inr (by rw [← HQ.out]; omega))))
    have HAO := Lib.hid A0
    have hcs : wc.heap.size = q + 2 := HO2.out.size.trans HSZ.out
    have HCS := Lib.hid hcs
    have hv2 : wc.cell? ⟨q, 0, none⟩ = some (.slice (some ⟨q + 1, 0, none⟩) (N * 2) (N * 2)) := A1.cv
    have HAP := Lib.hid A1
    clear HG2 HO2 HB1 HB2 HA1 K1 HSZ A0 hcs A1 hv hq1
    have hN2 : (N : Int) * 2 ≤ 1073741836 := by omega
    have hbig := hi.big
    rw [← HN.out] at hbig
    go_wp2
    go_loopw [5] (fun i wr => ∃ k : Nat, N ≤ k ∧ k ≤ N * 2 ∧ i = .int .i64 k ∧ Hid (Arr q (q + 1) (midA A N k) wr) ∧ Hid (Kp q (q + 1) wc wr)) (fun i _ => N * 2 - (intOf i).toNat)
    case atStart =>
      refine ⟨N, Nat.le_refl _, by omega, rfl, Lib.hid ⟨HAP.out.var, HAP.out.arr.trans (congrArg (fun z => some (Obj.cells z tEl (0, 0))) (cells_ext rfl ?_ ?_))⟩, Lib.hid (Kp.refl _ _ _)⟩
      · intro i _
        simp only [padA, midA]
        by_cases h : i < N
        · rw [if_pos h, if_pos h]
        · rw [if_neg h, if_neg h, if_neg h]
      · intro i _
        simp only [padA, midA]
        by_cases h : i < N
        · rw [if_pos h, if_pos h]
        · rw [if_neg h, if_neg h, if_neg h]
    case round =>
      obtain ⟨k, hk1, hk, rfl, HA, HK⟩ := hrel
      clear hv2
      have hv : wr.cell? ⟨q, 0, none⟩ = some (.slice (some ⟨q + 1, 0, none⟩) (N * 2) (N * 2)) := HA.out.cv
      by_cases hlt : k < N * 2
      · have h0 : wr.cell? ⟨q + 1, k * 2, none⟩ = some (.int .i32 ((midA A N k).b k)) := HA.out.cb (i := k) hlt
        have hf := HA.out.f (k * 2)
        have hlt' : (k : Int) < (N : Int) * 2 := by omega
        go_upto_region 9 with fail
        generalize hw1 : World.setCell _ _ _ = w2
        have A2 := HA.out.set_b (i := k) hlt (-((k : Int) - 1))
        rw [hw1] at A2
        have HK2 : Hid (Kp q (q + 1) wc w2) := Lib.hid (by
          subst hw1
          exact HK.out.set (.inr (.inl rfl)) _)
        clear hw1 hv h0 hf HA HK
        have hv : w2.cell? ⟨q, 0, none⟩ = some (.slice (some ⟨q + 1, 0, none⟩) (N * 2) (N * 2)) := A2.cv
        have h0 : w2.cell? ⟨q + 1, k * 2 + 1, none⟩ = some (.int .i32 ((midA A N k).c k)) := A2.cc (i := k) hlt
        have hf := A2.f (k * 2 + 1)
        have A3 := Lib.hid (A2.set_c (i := k) hlt (-((k : Int) + 1)))
        clear A2
        go_wp2
        refine ⟨⟨k + 1, by omega, by omega, by go_num, Lib.hid ?_, Lib.hid (HK2.out.set (.inr (.inl rfl)) _)⟩, by simp [intOf]; omega⟩
        refine ⟨A3.out.var, A3.out.arr.trans (congrArg (fun z => some (Obj.cells z tEl (0, 0))) (cells_ext rfl ?_ ?_))⟩
        · intro i hi
          simp only [upd, midA]
          by_cases h : i = k
          · subst h
            rw [if_pos rfl, if_neg (by omega), if_pos (by omega)]
          · rw [if_neg h]
            by_cases h2 : i < k
            · simp [h2, show i < k + 1 by omega]
            · simp [h2, show ¬ i < k + 1 by omega]
        · intro i hi
          simp only [upd, midA]
          by_cases h : i = k
          · subst h
            rw [if_pos rfl, if_neg (by omega), if_pos (by omega)]
          · rw [if_neg h]
            by_cases h2 : i < k
            · simp [h2, show i < k + 1 by omega]
            · simp [h2, show ¬ i < k + 1 by omega]
      · obtain rfl : k = N * 2 := by omega
        obtain ⟨f, hf⟩ := hi.first
        obtain ⟨l, hl⟩ := hi.last
        obtain ⟨e0, e1, e2⟩ := ends hi hf hl
        have hfn := fr_lt hf.1
        have hln := fr_lt hl.1
        have hf0 := hf.1.1
        rw [← HN.out] at hfn hln
        have Har : Hid (Arr dp g A wr) := Lib.hid (HAO.out.keep (HK.out.block dp (by rw [HCS.out]; omega) (by omega) (by omega)) (HK.out.block g (by rw [HCS.out]; omega) (by omega) (by omega)))
        have hdv : wr.cell? ⟨dp, 0, none⟩ = some (.slice (some ⟨g, 0, none⟩) N N) := by rw [HN.out]; exact Har.out.cv
        have hd0 : wr.cell? ⟨g, 1, none⟩ = some (.int .i32 (-(f : Int))) := by rw [← e0]; exact Har.out.cc (i := 0) (by have := HN.out; omega)
        have hqf : wr.cell? ⟨q + 1, f * 2, none⟩ = some (.int .i32 (-(l : Int))) := by
          rw [HA.out.cb (i := f) (by show f < N * 2; omega)]
          simp only [midA, if_pos hfn, e1]
        obtain ⟨t, ht⟩ : ∃ t : Nat, t = N * 2 - 1 := ⟨_, rfl⟩
        have htz : (N : Int) * 2 - 1 = (t : Int) := by omega
        have htb : t < N * 2 := by omega
        have HT := Lib.hid ht
        have HE0 := Lib.hid e0
        have HE1 := Lib.hid e1
        have HE2 := Lib.hid e2
        have hf1 := HA.out.f (N * 2)
        have h0 : wr.cell? ⟨q + 1, N * 2, none⟩ = some (.int .i32 ((midA A N (N * 2)).b N)) := HA.out.cb (i := N) (by show N < N * 2; omega)
        clear ht e0 e1 e2
        go_upto_region 13 with fail
        generalize hw2 : World.setCell _ _ _ = w2
        have A2 := HA.out.set_b (i := N) (by show N < N * 2; omega) (-(l : Int))
        rw [hw2] at A2
        have K3 : Hid (Kp q (q + 1) wc w2) := Lib.hid (by subst hw2; exact HK.out.set (.inr (.inl rfl)) _)
        have D2 : Hid (Arr dp g A w2) := Lib.hid (by subst hw2; exact Har.out.keep (heap_set_ne (by omega) _ _) (heap_set_ne (by omega) _ _))
        clear hw2 hv h0 hf1 hdv hd0 hqf HA HK Har
        have hv : w2.cell? ⟨q, 0, none⟩ = some (.slice (some ⟨q + 1, 0, none⟩) (N * 2) (N * 2)) := A2.cv
        obtain ⟨x, hx⟩ : ∃ x, w2.cell? ⟨q + 1, f * 2, none⟩ = some (.int .i32 x) := ⟨_, A2.cb (i := f) (by show f < N * 2; omega)⟩
        have hf1 := A2.f (f * 2)
        have A3 := A2.set_b (i := f) (by show f < N * 2; omega) (-(t : Int))
        clear A2
        go_upto_region 14 with fail
        generalize hw3 : World.setCell _ _ _ = w3
        rw [hw3] at A3
        have K4 : Hid (Kp q (q + 1) wc w3) := Lib.hid (by subst hw3; exact K3.out.set (.inr (.inl rfl)) _)
        have D3 : Hid (Arr dp g A w3) := Lib.hid (by subst hw3; exact D2.out.keep (heap_set_ne (by omega) _ _) (heap_set_ne (by omega) _ _))
        clear hw3 hv hx hf1 K3 D2
        have hv : w3.cell? ⟨q, 0, none⟩ = some (.slice (some ⟨q + 1, 0, none⟩) (N * 2) (N * 2)) := A3.cv
        obtain ⟨x, hx⟩ : ∃ x, w3.cell? ⟨q + 1, l * 2 + 1, none⟩ = some (.int .i32 x) := ⟨_, A3.cc (i := l) (by show l < N * 2; omega)⟩
        have hf1 := A3.f (l * 2 + 1)
        have A4 := A3.set_c (i := l) (by show l < N * 2; omega) (-(N : Int))
        clear A3
        go_upto_region 15 with fail
        generalize hw4 : World.setCell _ _ _ = w4
        rw [hw4] at A4
        have K5 : Hid (Kp q (q + 1) wc w4) := Lib.hid (by subst hw4; exact K4.out.set (.inr (.inl rfl)) _)
        have D4 : Hid (Arr dp g A w4) := Lib.hid (by subst hw4; exact D3.out.keep (heap_set_ne (by omega) _ _) (heap_set_ne (by omega) _ _))
        clear hw4 hv hx hf1 K4 D3
        have hv : w4.cell? ⟨q, 0, none⟩ = some (.slice (some ⟨q + 1, 0, none⟩) (N * 2) (N * 2)) := A4.cv
        obtain ⟨x, hx⟩ : ∃ x, w4.cell? ⟨q + 1, t * 2 + 1, none⟩ = some (.int .i32 x) := ⟨_, A4.cc (i := t) htb⟩
        have hf1 := A4.f (t * 2 + 1)
        have A5 := A4.set_c (i := t) htb (-(f : Int))
        clear A4
        go_upto_region 16 with fail
        generalize hw5 : World.setCell _ _ _ = w5
        rw [hw5] at A5
        have K6 : Hid (Kp q (q + 1) wc w5) := Lib.hid (by subst hw5; exact K5.out.set (.inr (.inl rfl)) _)
        have D5 : Hid (Arr dp g A w5) := Lib.hid (by subst hw5; exact D4.out.keep (heap_set_ne (by omega) _ _) (heap_set_ne (by omega) _ _))
        clear hw5 hv hx hf1 K5 D4
        have hv : w5.cell? ⟨q, 0, none⟩ = some (.slice (some ⟨q + 1, 0, none⟩) (N * 2) (N * 2)) := A5.cv
        have hdv : w5.cell? ⟨dp, 0, none⟩ = some (.slice (some ⟨g, 0, none⟩) N N) := by rw [HN.out]; exact D5.out.cv
        have hf1 := D5.out.fv
        have HA5 := Lib.hid A5
        clear A5
        go_wp2
        go_end0
        have hqn : dp ≠ q + 1 := by omega
        refine ⟨rfl, q + 1, ⟨?_, ?_⟩, by rw [← HQ.out]; omega, ?_⟩
        · rw [heap_set D5.out.var]
          have e : (grown A).n = N * 2 := by show 2 * A.n = N * 2; rw [HN.out]; omega
          rw [e]
          rfl
        · rw [heap_set_ne (fun e => hqn e.symm), HA5.out.arr]
          refine congrArg (fun z => some (Obj.cells z tEl (0, 0))) (cells_ext (by show N * 2 = 2 * A.n; rw [HN.out]; omega) ?_ ?_)
          · intro i hlt
            have hlt' : i < N * 2 := hlt
            rw [grown_b hi hf hl]
            have hT := HT.out
            have hN' := HN.out
            rw [← hN']
            simp only [upd, midA]
            by_cases h1 : i = f
            · rw [if_pos h1, if_pos h1]; omega
            · rw [if_neg h1, if_neg h1]
              by_cases h2 : i = N
              · rw [if_pos h2, if_neg (by omega), if_pos h2]
              · rw [if_neg h2]
                by_cases h3 : i < N
                · rw [if_pos h3, if_pos h3]
                · rw [if_neg h3, if_neg h3, if_neg h2]
                  rw [if_pos hlt']
          · intro i hlt
            have hlt' : i < N * 2 := hlt
            rw [grown_c hi hf hl]
            have hT := HT.out
            have hN' := HN.out
            rw [← hN']
            simp only [upd, midA]
            by_cases h1 : i = t
            · rw [if_pos h1, if_neg (by omega), if_neg (by omega), if_pos (by omega)]
            · rw [if_neg h1]
              by_cases h2 : i = l
              · rw [if_pos h2, if_pos h2]
              · rw [if_neg h2, if_neg h2]
                by_cases h3 : i < N
                · rw [if_pos h3, if_pos h3]
                · rw [if_neg h3, if_neg h3, if_pos hlt', if_neg (by omega)]
        · have hq := HQ.out
          have hcs := HCS.out
          exact ⟨K6.out.os.trans K2.out.os, K6.out.tape.trans K2.out.tape, K6.out.output.trans K2.out.output, by rw [size_set]; exact Nat.le_trans K2.out.size K6.out.size,
            fun k h1 h2 h3 => ((heap_set_ne h2 _ _).trans (K6.out.block k (by omega) (by omega) (by omega))).trans (K2.out.block k h1 h2 h3)⟩
end Go.Proofs.Ytjifoimkjgepcaa.Da
