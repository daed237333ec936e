/-
  The walks of spec.dSplit, spec.dLines and spec.UserRecords (what they come to is not told: they end).
-/
import Derived.Test.YtaniafohcaiedaaUr
import Derived.Deep.RegionHeld3
import Derived.Deep.DeepCutAuto
set_option linter.unusedVariables false
set_option linter.unusedSimpArgs false
namespace Go.Proofs.Ytaniafohcaiedaa.Tx
open Go.RowKit Go.Proofs.Ytaniafohcaiedaa.K Go.Proofs.YtaniafohcaiedaaW.PrintWords

def SplitRet (n : Nat) (w : World) (e : Ending) (w' : World) : Prop :=
  ∃ v xs, e = .returned v ∧ xs ≠ [] ∧ xs.length ≤ n + 1 ∧ (∀ x ∈ xs, x.size ≤ n) ∧ Kd.string.R 9 w' w.heap.size (fun _ => True) v xs ∧ Below w.heap.size w w'

set_option maxHeartbeats 2000000 in
set_option maxRecDepth 5000 in
theorem dSplit_any (s : ByteArray) (c : Int) (w : World) (hs : s.size ≤ 1099511627776) :
    Calls Try.prog 39 #[.string s, .int .u8 c] w (SplitRet s.size w) := by
  go_enter Try.func39, Try.ntmps39
  go_wp2
  go_loopw [5, 6, 7] (fun v f i wr => ∃ (k m : Nat) (xs : List ByteArray), i = .int .i64 k ∧ f = .int .i64 m ∧ m ≤ k ∧ k ≤ s.size ∧ xs.length ≤ k ∧ Hid (∀ x ∈ xs, x.size ≤ s.size) ∧ Hid (Kd.string.R 9 wr w.heap.size (fun _ => True) v xs) ∧ Hid (Below w.heap.size w wr)) (fun _ _ i _ => s.size - (intOf i).toNat)
  case atStart => exact ⟨0, 0, [], rfl, rfl, Nat.le_refl _, Nat.zero_le _, Nat.zero_le _, Lib.hid (by simp), Lib.hid (Kd.R_nil _ _ _ _ _), Lib.hid (Below.refl _ _)⟩
  case round =>
    obtain ⟨k, m, xs, rfl, rfl, hmk, hk, hxl, hx, hR, hbel⟩ := hrel
    have hszr := hbel.out.size
    by_cases hlt : k < s.size
    · by_cases hq : ((s[k].toNat : Int)) = c
      · have ht : (((s[k].toNat : Int)) == c) = true := by simpa using hq
        have hez : (s.extract m k).size ≤ s.size := by rw [ByteArray.size_extract]; omega
        have HX := Lib.hid (fun h => (List.forall_mem_append (p := fun x : ByteArray => x.size ≤ s.size) (l₁ := xs) (l₂ := [s.extract m k])).2 ⟨hx.out, h⟩)
        clear hq
        go_wp2_with (at_builtin; refine kapp (w0 := w) Kd.string w.heap.size rfl _ _ 31 9 (.string ⟨#[]⟩) 16 rfl Try.underlying31 (by kernel_rfl) rfl (by decide) (by decide) _ xs (s.extract m k) [.string (s.extract m k)] (fun _ => True) (fun _ => False) _ rfl rfl ?hg rfl (fun _ h => h.elim) (fun _ _ => trivial) (Kd.R_alloc hR.out _) (hbel.out.alloc hszr _) (by simp; omega) ?hl ?_)
        case hg =>
          intro j u hj
          rw [cell_of_heap (heap_new wr _)]
          simpa using hj
        case hl => omega
        intro v1 w4 hR4 hB4 hg4 hat4
        have HR4 := Lib.hid hR4
        have HB4 := Lib.hid hB4
        clear hg4 hat4 hR4 hB4
        go_wp2
        exact ⟨⟨k + 1, k + 1, xs ++ [s.extract m k], by go_num, by go_num, by omega, by omega, by simp; omega, Lib.hid (HX.out (by simpa using hez)), HR4, HB4⟩, by simp [intOf]; omega⟩
      · have ht : (((s[k].toNat : Int)) == c) = false := by simpa using hq
        clear hq
        go_wp2
        exact ⟨⟨k + 1, m, xs, by go_num, rfl, by omega, by omega, by omega, hx, hR, hbel⟩, by simp [intOf]; omega⟩
    · obtain rfl : k = s.size := by omega
      have hez : (s.extract m s.size).size ≤ s.size := by rw [ByteArray.size_extract]; omega
      have HX := Lib.hid (fun h => (List.forall_mem_append (p := fun x : ByteArray => x.size ≤ s.size) (l₁ := xs) (l₂ := [s.extract m s.size])).2 ⟨hx.out, h⟩)
      go_wp2_with (at_builtin; refine kapp (w0 := w) Kd.string w.heap.size rfl _ _ 31 9 (.string ⟨#[]⟩) 16 rfl Try.underlying31 (by kernel_rfl) rfl (by decide) (by decide) _ xs (s.extract m s.size) [.string (s.extract m s.size)] (fun _ => True) (fun _ => False) _ rfl rfl ?hg rfl (fun _ h => h.elim) (fun _ _ => trivial) (Kd.R_alloc hR.out _) (hbel.out.alloc hszr _) (by simp; omega) ?hl ?_)
      case hg =>
        intro j u hj
        rw [cell_of_heap (heap_new wr _)]
        simpa using hj
      case hl => omega
      intro v1 w4 hR4 hB4 hg4 hat4
      have HR4 := Lib.hid hR4
      have HB4 := Lib.hid hB4
      clear hg4 hat4 hR4 hB4
      go_wp2
      go_ret
      exact ⟨v1, _, rfl, by simp, by simp; omega, HX.out (by simpa only [List.mem_singleton, forall_eq] using hez), HR4.out, HB4.out⟩

set_option maxHeartbeats 2000000 in
set_option maxRecDepth 5000 in
theorem dLines_any (s : ByteArray) (w : World) (hs : s.size ≤ 1099511627776) :
    Calls Try.prog 38 #[.string s] w fun e w' => ∃ A n c xs, e = .returned (.slice A n c) ∧ xs.length = n ∧ n ≤ s.size + 1 ∧ (∀ x ∈ xs, x.size ≤ s.size) ∧ Kd.string.C w' A n xs ∧ Below w.heap.size w w' := by
  have H := Lib.hid (dSplit_any s 10 w hs)
  go_enter Try.func38, Try.ntmps38
  go_wp2_with fail
  refine H.out.mono ?_
  rintro e w1 ⟨v, xs, rfl, hne, hl, hx, hR, hb⟩
  obtain ⟨A, c, rfl, hlc, hC⟩ := Kd.R_reads hR
  obtain ⟨m, hm⟩ : ∃ m, xs.length = m + 1 := ⟨xs.length - 1, by have := List.length_pos_iff.2 hne; omega⟩
  obtain ⟨ad, rfl, hs1⟩ := strs_at hC m (by omega)
  have HX := Lib.hid hx
  have HC := Lib.hid hC
  have HB := Lib.hid hb
  have HM := Lib.hid hm
  rw [hm]
  have hm' : m ≤ s.size := by omega
  have hmc : m + 1 ≤ c := by omega
  clear hR hC hb hx hne
  generalize xs[m] = y at hs1
  clear hm hl hlc
  by_cases hy : y.toList = []
  · have ht : (y.toList == ([] : List UInt8)) = true := by simp [hy]
    clear hy
    go_wp2
    go_ret
    have h1 := Kd.C_take (m := m) HC.out (by rw [HM.out]; omega)
    have h2 : (xs.take m).length = m := by rw [List.length_take, HM.out]; omega
    rw [h2] at h1
    exact ⟨some ad, m, c, xs.take m, rfl, h2, by omega, fun x hx => HX.out x (List.mem_of_mem_take hx), h1, HB.out⟩
  · have ht : (y.toList == ([] : List UInt8)) = false := by simpa using hy
    clear hy
    go_wp2
    go_ret
    have h1 := HC.out
    rw [HM.out] at h1
    exact ⟨some ad, m + 1, c, xs, rfl, HM.out, by omega, HX.out, h1, HB.out⟩

/-- Cells as they are. -/
def Kd.raw (n : Nat) : Kd (List Value) where
  sz := n
  E := []
  K := fun _ x cs => cs = x ∧ x.length = n ∧ ∀ u ∈ x, u.oneCell' = true
  M := fun _ _ _ x cs => cs = x ∧ x.length = n ∧ ∀ u ∈ x, u.oneCell' = true
  K_len := by rintro w x cs ⟨rfl, h, _⟩; exact h
  K_one := by rintro w x cs ⟨rfl, _, h⟩; exact h
  K_below := by rintro w w1 x cs _ h; exact h
  K_of_M := by rintro w base ok x cs h; exact h
  M_mono := by rintro w base ok ok' x cs _ h; exact h
  M_bound := by rintro w base ok x cs h; exact h
  M_move := by rintro w w1 base ok x cs _ h; exact h
  M_lower := by rintro w base base' ok x cs _ h; exact h
theorem raw_info : (Try.prog.info? 36).map (fun i => (i.zero, i.size, i.bytes)) = some (some (.agg #[.string ⟨#[]⟩, .slice none 0 0, .slice none 0 0, .string ⟨#[]⟩]), (Kd.raw 4).sz, 80) := by kernel_rfl
theorem raw_cells : (Value.agg #[.string ⟨#[]⟩, .slice none 0 0, .slice none 0 0, .string ⟨#[]⟩]).cells.size = (Kd.raw 4).sz := rfl
theorem hid_trans {w0 w w1 : World} (h : Hid (Below w0.heap.size w0 w)) (k : Below w.heap.size w w1) : Below w0.heap.size w0 w1 := below_step h.out k
theorem hid_drew {w0 w : World} (h : Hid (Below w0.heap.size w0 w)) : Hid (Below w0.heap.size w0 w.drew) := Lib.hid h.out.drew
theorem hid_alloc {w0 w : World} (h : Hid (Below w0.heap.size w0 w)) (o : Obj) : Hid (Below w0.heap.size w0 (w.alloc o)) := Lib.hid (below_alloc h.out o)
theorem keep5 {w0 w w1 : World} {p q r t : Addr} {a b c d : Value} (h : Hid (Below w.heap.size w w1)) (h1 : w.cell? p = some a) (h2 : w.cell? q = some b) (h3 : w.cell? r = some c) (h4 : w.cell? t = some d) (h5 : Hid (Below w0.heap.size w0 w)) :
    w1.cell? p = some a ∧ w1.cell? q = some b ∧ w1.cell? r = some c ∧ w1.cell? t = some d ∧ Hid (Below w0.heap.size w0 w1) :=
  ⟨(h.out.cell (World.block_lt_of_cell? _ _ h1)).trans h1, (h.out.cell (World.block_lt_of_cell? _ _ h2)).trans h2, (h.out.cell (World.block_lt_of_cell? _ _ h3)).trans h3, (h.out.cell (World.block_lt_of_cell? _ _ h4)).trans h4, Lib.hid (hid_trans h5 h.out)⟩
theorem keepB {w0 w1 : World} {p q r t : Addr} {a b c d : Value} (h1 : w0.cell? p = some a) (h2 : w0.cell? q = some b) (h3 : w0.cell? r = some c) (h4 : w0.cell? t = some d) (h : Hid (Below w0.heap.size w0 w1)) :
    w1.cell? p = some a ∧ w1.cell? q = some b ∧ w1.cell? r = some c ∧ w1.cell? t = some d ∧ Hid (Below w0.heap.size w0 w1) :=
  ⟨(h.out.cell (World.block_lt_of_cell? _ _ h1)).trans h1, (h.out.cell (World.block_lt_of_cell? _ _ h2)).trans h2, (h.out.cell (World.block_lt_of_cell? _ _ h3)).trans h3, (h.out.cell (World.block_lt_of_cell? _ _ h4)).trans h4, h⟩
theorem hid_set {w0 w : World} (h : Hid (Below w0.heap.size w0 w)) {p : Addr} (hp : w0.heap.size ≤ p.block) (v : Value) : Hid (Below w0.heap.size w0 (w.setCell p v)) := Lib.hid (h.out.setCell hp v)
theorem hid_swap {w0 w : World} {z : Obj} (h : Hid (Below w0.heap.size w0 (w.alloc z))) (hs : w0.heap.size ≤ w.heap.size) (o : Obj) : Hid (Below w0.heap.size w0 (w.alloc o)) :=
  Lib.hid ⟨h.out.os, h.out.tape, h.out.output, by simp; omega, fun i hi => by rw [heap_old' w o (by omega), ← heap_old' w z (by omega)]; exact h.out.block i hi⟩
theorem bcell {W w1 : World} (hb : Below W.heap.size W w1) : (∀ b o, b < W.heap.size → w1.cell? ⟨b, o, none⟩ = W.cell? ⟨b, o, none⟩) ∧ (∀ b o, b < W.heap.size → w1.frozen? ⟨b, o, none⟩ = W.frozen? ⟨b, o, none⟩) :=
  ⟨fun b o h => hb.cell (p := ⟨b, o, none⟩) h, fun b o h => hb.frozen (p := ⟨b, o, none⟩) h⟩
theorem blk_after {w w1 : World} {z : Obj} (h : Below (w.alloc z).heap.size (w.alloc z) w1) : w1.heap[w.heap.size]? = some z := (h.block _ (by simp)).trans (heap_new w z)
theorem blk_after' {w w1 : World} {z : Obj} (h : Below (w.alloc z).drew.heap.size (w.alloc z).drew w1) : w1.heap[w.heap.size]? = some z := (h.block _ (by show w.heap.size < (w.alloc z).heap.size; simp)).trans (heap_new w z)
theorem blk_on {w w1 : World} {g : Nat} {z : Obj} (h : Below w.heap.size w w1) (hg : w.heap[g]? = some z) : w1.heap[g]? = some z := (h.block _ (lt_of_heap hg)).trans hg
theorem cells4 {w : World} {g : Nat} {a b c d : Value} {t : TypeId} (h : w.heap[g]? = some (.cells #[a, b, c, d] t (0, 0))) :
    w.cell? ⟨g, 0, none⟩ = some a ∧ w.cell? ⟨g, 1, none⟩ = some b ∧ w.cell? ⟨g, 2, none⟩ = some c ∧ w.cell? ⟨g, 3, none⟩ = some d ∧
    w.frozen? ⟨g, 0, none⟩ = false ∧ w.frozen? ⟨g, 1, none⟩ = false ∧ w.frozen? ⟨g, 2, none⟩ = false ∧ w.frozen? ⟨g, 3, none⟩ = false :=
  ⟨cell_of_heap h 0, cell_of_heap h 1, cell_of_heap h 2, cell_of_heap h 3, frozen_of_heap h 0, frozen_of_heap h 1, frozen_of_heap h 2, frozen_of_heap h 3⟩
theorem set4 {w : World} {g : Nat} {z0 z1 z2 z3 a b c d : Value} {t : TypeId} (h : w.heap[g]? = some (.cells #[z0, z1, z2, z3] t (0, 0))) :
    ((((w.setCell ⟨g, 0, none⟩ a).setCell ⟨g, 1, none⟩ b).setCell ⟨g, 2, none⟩ c).setCell ⟨g, 3, none⟩ d).heap[g]? = some (.cells #[a, b, c, d] t (0, 0)) := by
  have h1 := heap_set (heap_set (heap_set (heap_set h 0 a) 1 b) 2 c) 3 d
  simpa using h1
theorem mk_rel {w3 W : World} {g n4 c4 n5 c5 : Nat} {A4 A5 : Option Addr} {a d : ByteArray} {t : TypeId} (h : W.heap[g]? = some (.cells #[.string a, .slice A4 n4 c4, .slice A5 n5 c5, .string d] t (0, 0))) (h4 : n4 ≤ 60001) (h5 : n5 ≤ 60001) (hb : Hid (Below w3.heap.size w3 W)) :
    ∃ (g' n4' c4' n5' c5' : Nat) (A4' A5' : Option Addr), Value.pointer (some ⟨g, 0, none⟩) = .pointer (some ⟨g', 0, none⟩) ∧ n4' ≤ 60001 ∧ n5' ≤ 60001 ∧ Hid (W.cell? ⟨g', 0, none⟩ = some (.string a)) ∧ Hid (W.cell? ⟨g', 1, none⟩ = some (.slice A4' n4' c4')) ∧ Hid (W.cell? ⟨g', 2, none⟩ = some (.slice A5' n5' c5')) ∧ Hid (W.cell? ⟨g', 3, none⟩ = some (.string d)) ∧ Hid (Below w3.heap.size w3 W) :=
  ⟨g, n4, c4, n5, c5, A4, A5, rfl, h4, h5, Lib.hid (cell_of_heap h 0), Lib.hid (cell_of_heap h 1), Lib.hid (cell_of_heap h 2), Lib.hid (cell_of_heap h 3), hb⟩
theorem hid_of {w0 w W : World} (h : Hid (Below w0.heap.size w0 w)) (f : Below w0.heap.size w0 w → Below w0.heap.size w0 W) : Hid (Below w0.heap.size w0 W) := Lib.hid (f h.out)
theorem le_blk {b B o : Nat} (h : b ≤ B) : b ≤ (⟨B, o, none⟩ : Addr).block := h
def Some3 (w : World) (e : Ending) (w' : World) : Prop := ∃ v i b, e = .returned (.tuple #[v, .int .i64 i, .bool b]) ∧ Below w.heap.size w w'

set_option maxHeartbeats 4000000 in
set_option maxRecDepth 5000 in
theorem specRecords_any (s : ByteArray) (w : World) (hs : s.size ≤ 1000000) :
    Calls Try.prog 20 #[.string s] w (Some3 w) := by
  have H := Lib.hid (dLines_any s w (by omega))
  have HD := Lib.hid (fun (x : ByteArray) (c : Int) (W : World) (hx : x.size ≤ 60000) => dSplit_any x c W (by omega))
  go_enter Try.func20, Try.ntmps20
  go_wp2_with fail
  refine H.out.mono ?_
  rintro e w1 ⟨A, n, c, xs, rfl, hl, hn, hx, hC, hb⟩
  have HX := Lib.hid hx
  have HC := Lib.hid hC
  have HB := Lib.hid hb
  have hsz1 := hb.size
  have hnm : n ≤ 1000001 := by omega
  clear hx hC hb hn H
  go_wp2
  go_loopw [14, 2] (fun i v wr => ∃ (k : Nat) (rs : List (List Value)), k ≤ n ∧ i = .int .i64 k ∧ rs.length ≤ k ∧ Hid ((Kd.raw 4).R 36 wr w1.heap.size (fun _ => True) v rs) ∧ Hid (Below w1.heap.size w1 wr)) (fun i _ _ => n - (intOf i).toNat)
  case atStart => exact ⟨0, [], Nat.zero_le _, rfl, Nat.le_refl _, Lib.hid (Kd.R_nil _ _ _ _ _), Lib.hid (Below.refl _ _)⟩
  case round =>
    obtain ⟨k, rs, hk, rfl, hrl, hR, hbel⟩ := hrel
    have hszr := hbel.out.size
    have HBw := Lib.hid (HB.out.trans (hbel.out.mono hsz1))
    by_cases hlt : k < n
    · obtain ⟨ad, rfl, hs1⟩ := strs_at (Kd.C_below HC.out hbel.out) k (by omega)
      have hxs := HX.out _ (List.getElem_mem (by omega : k < xs.length))
      generalize xs[k]'(by omega) = x at hs1 hxs
      by_cases hbig : 60000 < x.size
      · go_wp2
        go_ret3
        exact ⟨_, _, _, rfl, HBw.out⟩
      by_cases h0 : x.size = 0
      · have h0' : x.toList = [] := by rw [ByteArray.toList_eq]; exact List.eq_nil_of_length_eq_zero (by rw [Array.length_toList]; exact h0)
        have ht : (x.toList == ([] : List UInt8)) = true := by simp [h0']
        clear h0'
        go_wp2_with fail
        exact ⟨⟨k + 1, rs, by omega, by go_num, by omega, hR, hbel⟩, by simp [intOf]; omega⟩
      go_upto_if 32 with fail
      go_cut [2, 7] (fun s2 s7 wx => ∃ y : ByteArray, s7 = .string y ∧ y.size ≤ 60000 ∧ s2 = u2 ∧ wr = wx)
      case first =>
        rcases Bool.eq_false_or_eq_true ((k : Int) == (n : Int) - 1) with hq | hq
        all_goals
          go_wp2
          all_goals first
            | (go_ret3
               exact ⟨_, _, _, rfl, HBw.out⟩)
            | (go_meet
               case rel => exact ⟨_, rfl, by first | omega | (rw [ByteArray.size_extract]; omega), rfl, rfl⟩)
      case rest =>
        obtain ⟨y, rfl, hy, rfl, rfl⟩ := hcut
        by_cases hy0 : y.toList = []
        · have ht : (y.toList == ([] : List UInt8)) = true := by simp [hy0]
          clear hy0
          go_wp2_with fail
          exact ⟨⟨k + 1, rs, by omega, by go_num, by omega, hR, hbel⟩, by simp [intOf]; omega⟩
        have ht : (y.toList == ([] : List UInt8)) = false := by simpa using hy0
        have hyp : 0 < y.size := by
          rcases Nat.eq_zero_or_pos y.size with h | h
          · exact absurd (by rw [ByteArray.toList_eq]; exact List.eq_nil_of_length_eq_zero (by rw [Array.length_toList]; exact h)) hy0
          · exact h
        clear hy0
        by_cases h35 : (((y[0]'hyp).toNat : Int)) = 35
        · have ht2 : ((((y[0]'hyp).toNat : Int)) == 35) = true := by simpa using h35
          clear h35
          go_wp2_with fail
          exact ⟨⟨k + 1, rs, by omega, by go_num, by omega, hR, hbel⟩, by simp [intOf]; omega⟩
        have ht2 : ((((y[0]'hyp).toNat : Int)) == 35) = false := by simpa using h35
        clear h35
        go_wp2_with fail
        refine (HD.out y 44 wr hy).mono ?_
        rintro e w3 ⟨v3, zs, rfl, _, hzl, hzs, hR3, hl3⟩
        clear ht ht2
        obtain ⟨A3, c3, rfl, _, hC3⟩ := Kd.R_reads hR3
        have hsz3 := hl3.size
        have HL3 := Lib.hid hl3
        by_cases h4 : ¬ zs.length = 4
        · have hq : ((zs.length : Int) != 4) = true := by simp; omega
          have HW3 := Lib.hid (HBw.out.trans (hl3.mono (Nat.le_trans hsz1 hszr)))
          clear hzs hR3 hC3 hl3 h4
          go_wp2
          go_ret3
          exact ⟨_, _, _, rfl, HW3.out⟩
        obtain ⟨a, b, c', d, rfl⟩ := four_of_len (Decidable.not_not.1 h4)
        have hzb := hzs b (by simp)
        have hzc := hzs c' (by simp)
        obtain ⟨ad3, rfl, hs0⟩ := strs_at hC3 0 (by simp)
        obtain ⟨_, h, hs1'⟩ := strs_at hC3 1 (by simp)
        cases h
        obtain ⟨_, h, hs2⟩ := strs_at hC3 2 (by simp)
        cases h
        obtain ⟨_, h, hs3⟩ := strs_at hC3 3 (by simp)
        cases h
        replace hs0 : w3.cell? (ad3.add 0) = some (.string a) := hs0
        replace hs1' : w3.cell? (ad3.add 1) = some (.string b) := hs1'
        replace hs2 : w3.cell? (ad3.add 2) = some (.string c') := hs2
        replace hs3 : w3.cell? (ad3.add 3) = some (.string d) := hs3
        rw [show ad3.add 0 = ad3 by simp [Addr.add]] at hs0
        rw [show ad3.add 1 = ⟨ad3.block, ad3.off + 1, none⟩ by simp [Addr.add]] at hs1'
        rw [show ad3.add 2 = ⟨ad3.block, ad3.off + 2, none⟩ by simp [Addr.add]] at hs2
        rw [show ad3.add 3 = ⟨ad3.block, ad3.off + 3, none⟩ by simp [Addr.add]] at hs3
        clear hzs hR3 hC3 hl3 h4
        go_upto_region 15 with fail
        have hzb' := Nat.le_trans hzb hy
        have hzc' := Nat.le_trans hzc hy
        go_cut [9] (fun s9 wx => ∃ (g n4 c4 n5 c5 : Nat) (A4 A5 : Option Addr), s9 = .pointer (some ⟨g, 0, none⟩) ∧ n4 ≤ 60001 ∧ n5 ≤ 60001 ∧ Hid (wx.cell? ⟨g, 0, none⟩ = some (.string a)) ∧ Hid (wx.cell? ⟨g, 1, none⟩ = some (.slice A4 n4 c4)) ∧ Hid (wx.cell? ⟨g, 2, none⟩ = some (.slice A5 n5 c5)) ∧ Hid (wx.cell? ⟨g, 3, none⟩ = some (.string d)) ∧ Hid (Below w3.heap.size w3 wx))
        case first =>
          have HDb := Lib.hid (fun W => HD.out b 32 W hzb')
          have HDc := Lib.hid (fun W => HD.out c' 32 W hzc')
          have HS := Lib.hid (Below.refl w3.heap.size w3)
          have HS' := Lib.hid (Nat.le_refl w3.heap.size)
          go_region_held3 (fun w' => w'.cell? ad3 = some (.string a) ∧ w'.cell? ⟨ad3.block, ad3.off + 1, none⟩ = some (.string b) ∧ w'.cell? ⟨ad3.block, ad3.off + 2, none⟩ = some (.string c') ∧ w'.cell? ⟨ad3.block, ad3.off + 3, none⟩ = some (.string d) ∧ Hid (Below w3.heap.size w3 w'))
            (first
              | (go_split_ands; refine keepB hs0 hs1' hs2 hs3 ?_; (first
                | with_reducible assumption
                | (refine Lib.hid (hid_trans ?_ hlq.out); with_reducible assumption)
                | (apply hid_swap; assumption; assumption)
                | ((repeat' (first | with_reducible assumption | with_reducible exact HS | refine hid_drew ?_ | refine hid_alloc ?_ _ | refine hid_set ?_ ?_ _)) <;> (first | (simp; done) | (simp; omega))))))
            (first
              | (go_at_call 39; (with_reducible refine (HDb.out _).mono ?_); rintro e w4 ⟨v4, zs4, rfl, _, hzl4, _, hR4, hlq'⟩; have hlq := Lib.hid hlq'; go_split_ands; have hBq : Hid (Below w3.heap.size w3 w4) := Lib.hid (hid_trans (by assumption) hlq'); have hsq : w3.heap.size ≤ w4.heap.size := hBq.out.size; (try (have hgb := blk_after hlq'; obtain ⟨q0, q1, q2, q3, r0, r1, r2, r3⟩ := cells4 hgb)); (try (have hgb := blk_after' hlq'; obtain ⟨q0, q1, q2, q3, r0, r1, r2, r3⟩ := cells4 hgb)); (try (have hgb := blk_on (g := w3.heap.size) (z := (.cells #[.string ⟨#[]⟩, .slice none 0 0, .slice none 0 0, .string ⟨#[]⟩] 36 (0, 0))) hlq' (by assumption); obtain ⟨q0, q1, q2, q3, r0, r1, r2, r3⟩ := cells4 hgb)); obtain ⟨A4, c4, hv4⟩ := Kd.R_slice hR4; subst hv4; clear hlq' hR4)
              | (go_at_call 39; (with_reducible refine (HDc.out _).mono ?_); rintro e w5 ⟨v5, zs5, rfl, _, hzl5, _, hR5, hlq'⟩; have hlq := Lib.hid hlq'; go_split_ands; have hBq : Hid (Below w3.heap.size w3 w5) := Lib.hid (hid_trans (by assumption) hlq'); have hsq : w3.heap.size ≤ w5.heap.size := hBq.out.size; (try (have hgb := blk_after hlq'; obtain ⟨q0, q1, q2, q3, r0, r1, r2, r3⟩ := cells4 hgb)); (try (have hgb := blk_after' hlq'; obtain ⟨q0, q1, q2, q3, r0, r1, r2, r3⟩ := cells4 hgb)); (try (have hgb := blk_on (g := w3.heap.size) (z := (.cells #[.string ⟨#[]⟩, .slice none 0 0, .slice none 0 0, .string ⟨#[]⟩] 36 (0, 0))) hlq' (by assumption); obtain ⟨q0, q1, q2, q3, r0, r1, r2, r3⟩ := cells4 hgb)); obtain ⟨A5, c5, hv5⟩ := Kd.R_slice hR5; subst hv5; clear hlq' hR5))
          · go_wp2_with fail
            go_meet
            case rel =>
              go_split_ands
              exact mk_rel (heap_new _ _) (by omega) (by omega) (hid_of (by assumption) (fun h => h.alloc (by omega) _))
          · go_wp2_with fail
            go_meet
            case rel =>
              go_split_ands
              exact mk_rel (set4 (by assumption)) (by omega) (by omega) (hid_of (by assumption) (fun h => (((h.setCell (le_blk (by omega)) _).setCell (le_blk (by omega)) _).setCell (le_blk (by omega)) _).setCell (le_blk (by omega)) _))
          · go_wp2_with fail
            go_meet
            case rel =>
              go_split_ands
              exact mk_rel (set4 (by assumption)) (by omega) (by omega) (hid_of (by assumption) (fun h => (((h.setCell (le_blk (by omega)) _).setCell (le_blk (by omega)) _).setCell (le_blk (by omega)) _).setCell (le_blk (by omega)) _))
        case rest =>
          obtain ⟨g, n4, c4, n5, c5, A4, A5, rfl, h4l, h5l, g0, g1, g2, g3, hB⟩ := hcut
          have e0 := g0.out
          have e1 := g1.out
          have e2 := g2.out
          have e3 := g3.out
          have HXc := Lib.hid ((hbel.out.trans (HL3.out.mono hszr)).trans (hB.out.mono (Nat.le_trans hszr hsz3)))
          have HRc := Lib.hid (Kd.R_below hR.out (below_step HL3.out hB.out))
          have hszc := HXc.out.size
          by_cases heq : n4 = n5
          · have hq : ((n4 : Int) != n5) = false := by simp; omega
            subst heq
            go_wp2_with (at_builtin; refine kapp (w0 := w1) (Kd.raw 4) w1.heap.size rfl _ _ 33 36 (.agg #[.string ⟨#[]⟩, .slice none 0 0, .slice none 0 0, .string ⟨#[]⟩]) 80 rfl Try.underlying33 raw_info raw_cells (by decide) (by decide) _ rs [.string a, .slice A4 n4 c4, .slice A5 n4 c5, .string d] [.string a, .slice A4 n4 c4, .slice A5 n4 c5, .string d] (fun _ => True) (fun _ => False) _ rfl rfl ?hg ⟨rfl, rfl, by simp [Value.oneCell']⟩ (fun _ h => h.elim) (fun _ _ => trivial) (Kd.R_alloc HRc.out _) (HXc.out.alloc hszc _) (by simp; omega) ?hl ?_)
            case hg =>
              intro j u hj
              rw [cell_of_heap (heap_new _ _)]
              simpa using hj
            case hl => omega
            intro v7 w7 hR7 hB7 hg7 hat7
            have HR7 := Lib.hid hR7
            have HB7 := Lib.hid hB7
            clear hg7 hat7 hR7 hB7
            go_wp2
            exact ⟨⟨k + 1, rs ++ [[.string a, .slice A4 n4 c4, .slice A5 n4 c5, .string d]], by omega, by go_num, by simp; omega, HR7, HB7⟩, by simp [intOf]; omega⟩
          · have hq : ((n4 : Int) != n5) = true := by simp; omega
            have HWc := Lib.hid (HB.out.trans (HXc.out.mono hsz1))
            go_wp2
            go_ret3
            exact ⟨_, _, _, rfl, HWc.out⟩
    · go_wp2
      go_ret3
      exact ⟨_, _, _, rfl, HBw.out⟩
end Go.Proofs.Ytaniafohcaiedaa.Tx
