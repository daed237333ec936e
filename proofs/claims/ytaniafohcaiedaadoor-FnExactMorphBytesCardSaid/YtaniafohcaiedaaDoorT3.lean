/-
  Rows of three numbers each: their cells, how they are read, the walks of morphs, small16 and same[[3]int].
-/
import Derived.Test.YtaniafohcaiedaaDoorZr
import Derived.Test.YtaniafohcaiedaaDoorRows
set_option linter.unusedVariables false
set_option linter.unusedSimpArgs false
namespace Go.Proofs.YtaniafohcaiedaaDoor.Z
open Go.RowKit Go.Proofs.YtaniafohcaiedaaDoor.K Go.Proofs.YtaniafohcaiedaaDoorW.PrintWords

abbrev T3 : Type := Int × Int × Int
def enc3 (k : IntKind) (x : T3) : List Value := [.int k x.1, .int k x.2.1, .int k x.2.2]
/-- Three numbers in line. -/
def kT (k : IntKind) : Kd T3 where
  sz := 3
  E := []
  K := fun _ x cs => cs = enc3 k x
  M := fun _ _ _ x cs => cs = enc3 k x
  K_len := fun h => by rw [h]; rfl
  K_one := fun h u hu => by
    rw [h] at hu
    simp [enc3] at hu
    rcases hu with rfl | rfl | rfl <;> rfl
  K_below := fun _ h => h
  K_of_M := fun h => h
  M_mono := fun _ h => h
  M_bound := fun h => h
  M_move := fun _ h => h
  M_lower := fun _ h => h
theorem t3_at {k : IntKind} {w : World} {A : Option Addr} {xs : List T3} (h : (kT k).C w A xs.length xs) (i : Nat) (hi : i < xs.length) : ∃ ad, A = some ad ∧ ad.block < w.heap.size ∧
    w.cell? (ad.add (i * 3)) = some (.int k xs[i].1) ∧ w.cell? ⟨(ad.add (i * 3)).block, (ad.add (i * 3)).off + 1, none⟩ = some (.int k xs[i].2.1) ∧ w.cell? ⟨(ad.add (i * 3)).block, (ad.add (i * 3)).off + 2, none⟩ = some (.int k xs[i].2.2) := by
  obtain ⟨hl, hm, hc⟩ := h
  obtain ⟨ad, hA, hcells⟩ := hc (by omega)
  obtain ⟨c, hcl, hk, hcc⟩ := hcells i xs[i] (by rw [List.getElem?_eq_getElem hi])
  have hk' : c = enc3 k xs[i] := hk
  subst hk'
  have e : (kT k).sz = 3 := rfl
  have h0 := hcc 0 _ rfl
  have h1 := hcc 1 _ rfl
  have h2 := hcc 2 _ rfl
  rw [e] at h0 h1 h2
  rw [add_field ad (i * 3) 1 (by omega)] at h1
  rw [add_field ad (i * 3) 2 (by omega)] at h2
  have hb : (ad.add (i * 3 + 0)).block = ad.block := by unfold Addr.add; split <;> rfl
  exact ⟨ad, hA, by have := World.block_lt_of_cell? w _ h0; rwa [hb] at this, h0, h1, h2⟩
theorem reps3 (w : World) (k : IntKind) (xs : List T3) : Reps ((kT k).K w) (kT k).sz xs (xs.flatMap (enc3 k)) := by
  induction xs with
  | nil => exact Reps.none _ _
  | cons x xs ih => exact reps_cons (c := enc3 k x) rfl rfl ih
def w16 (x : T3) : T3 := (IntKind.i16.wrap x.1, IntKind.i16.wrap x.2.1, IntKind.i16.wrap x.2.2)

set_option maxHeartbeats 1000000 in
set_option maxRecDepth 5000 in
theorem morphs_any (A : Option Addr) (c : Nat) (xs : List T3) (w : World) (hC : (kT .i64).C w A xs.length xs) (hn : xs.length ≤ 2147483647) :
    Calls Tryd.prog 47 #[.slice A xs.length c] w fun e w' => ∃ v, e = .returned v ∧ (kT .i16).R 99 w' w.heap.size (fun _ => True) v (xs.map w16) ∧ Below w.heap.size w w' := by
  have HC := Lib.hid hC
  clear hC
  go_enter Tryd.func47, Tryd.ntmps47
  go_wp2
  go_loopw [8, 3] (fun i v wr => ∃ k : Nat, k ≤ xs.length ∧ i = .int .i64 k ∧ Hid ((kT .i16).R 99 wr w.heap.size (fun _ => True) v ((xs.take k).map w16)) ∧ Hid (Below w.heap.size w wr)) (fun i _ _ => xs.length - (intOf i).toNat)
  case atStart => exact ⟨0, Nat.zero_le _, rfl, Lib.hid (Kd.R_nil _ _ _ _ _), Lib.hid (Below.refl _ _)⟩
  case round =>
    obtain ⟨k, hk, rfl, hR, hbel⟩ := hrel
    by_cases hlt : k < xs.length
    · obtain ⟨ad, rfl, hbl, h0, h1, h2⟩ := t3_at (Kd.C_below HC.out hbel.out) k hlt
      go_wp2_with (at_builtin; refine kapp (w0 := w) (kT .i16) w.heap.size rfl _ _ 93 99 (.agg #[.int .i16 0, .int .i16 0, .int .i16 0]) 6 rfl Tryd.underlying93 (by kernel_rfl) rfl (by decide) (by decide) _ ((xs.take k).map w16) (w16 xs[k]) (enc3 .i16 (w16 xs[k])) (fun _ => True) (fun _ => False) (wr.heap.size + 1) rfl rfl ?hg rfl (fun _ h => h.elim) (fun _ _ => trivial) (Kd.R_alloc (Kd.R_alloc hR.out _) _) ((hbel.out.alloc hbel.out.size _).alloc (by simp; have := hbel.out.size; omega) _) (by simp; have := hbel.out.size; omega) ?hl ?_)
      case hg =>
        intro j u hj
        have := heap_alloc_new (wr.alloc (.cells #[.int .i64 xs[k].1, .int .i64 xs[k].2.1, .int .i64 xs[k].2.2] 39)) (.cells #[.int .i16 (IntKind.i16.wrap xs[k].1), .int .i16 (IntKind.i16.wrap xs[k].2.1), .int .i16 (IntKind.i16.wrap xs[k].2.2)] 99)
        rw [size_alloc] at this
        rw [cell_of_heap this]
        simpa [enc3, w16] using hj
      case hl => simp; omega
      intro v1 w4 hR4 hB4 hg4 hat4
      have HR4 := Lib.hid hR4
      have HB4 := Lib.hid hB4
      clear hg4 hat4 hR4 hB4 h0 h1 h2
      go_wp2
      refine ⟨⟨k + 1, by omega, by go_num, Lib.hid ?_, HB4⟩, by simp [intOf]; omega⟩
      have := HR4.out
      rw [List.take_succ_eq_append_getElem hlt, List.map_append]
      simpa using this
    · obtain rfl : k = xs.length := by omega
      go_wp2
      go_ret
      have := hR.out
      rw [List.take_length] at this
      exact ⟨_, rfl, this, hbel.out⟩
end Go.Proofs.YtaniafohcaiedaaDoor.Z
