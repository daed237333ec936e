/-
  The walk of impl.hits.
-/
import Derived.Test.YtjifoimkjgepcaaDoorDq
import Derived.Deep.RegionLaw
set_option linter.unusedVariables false
set_option linter.unusedSimpArgs false
namespace Go.Proofs.YtjifoimkjgepcaaDoor.Da
open Go.RowKit Go.ChangeShapes Go.Proofs.YtjifoimkjgepcaaDoor.K Go.Proofs.YtjifoimkjgepcaaDoorW.PrintWords

abbrev tHit : Nat := 54
abbrev Hit := Int × Int
def kHit : Kd Hit := Kd.pair (Kd.int .i64) (Kd.int .i64)
theorem hit_M (w : World) (base : Nat) (ok : Nat → Prop) (h : Hit) : kHit.M w base ok h [.int .i64 h.1, .int .i64 h.2] := ⟨[.int .i64 h.1], [.int .i64 h.2], rfl, rfl, rfl⟩
theorem infoHit : (Tryd.prog.info? tHit).map (fun i => (i.zero, i.size, i.bytes)) = some (some (.agg #[.int .i64 0, .int .i64 0]), kHit.sz, 16) := by
  show _ = some (some (Value.agg #[.int .i64 0, .int .i64 0]), 2, 16)
  kernel_rfl
set_option maxHeartbeats 1000000 in
set_option maxRecDepth 100000 in
theorem hits_any (A1 A2 : Option Addr) (c1 c2 : Nat) (H : List Hit) (w : World) (h1 : (Kd.int .i64).C w A1 H.length (H.map (·.1))) (h2 : (Kd.int .i64).C w A2 H.length (H.map (·.2))) (hl : H.length ≤ 8796093022000) :
    Calls Tryd.prog 44 #[.slice A1 H.length c1, .slice A2 H.length c2] w (RetRow kHit tHit H w) := by
  have HC1 := Lib.hid h1
  have HC2 := Lib.hid h2
  clear h1 h2
  go_enter Tryd.func44, Tryd.ntmps44
  go_wp2_with fail
  go_loopw [5, 6, 9] (fun v _ jv wr => ∃ k : Nat, k ≤ H.length ∧ jv = .int .i64 k ∧ Hid (kHit.R tHit wr w.heap.size (fun _ => True) v (H.take k)) ∧ Hid (Below w.heap.size w wr)) (fun _ _ jv _ => H.length - (intOf jv).toNat)
  case atStart => exact ⟨0, Nat.zero_le _, rfl, Lib.hid (Kd.R_nil _ _ _ _ _), Lib.hid (Below.refl _ _)⟩
  case round =>
    obtain ⟨k, hk, rfl, HR, HB⟩ := hrel
    by_cases hlt : k < H.length
    · have hl1 : k < (H.map (·.1)).length := by rw [List.length_map]; exact hlt
      have hl2 : k < (H.map (·.2)).length := by rw [List.length_map]; exact hlt
      obtain ⟨ad1, rfl, hx1⟩ := ints_at HC1.out k hl1
      obtain ⟨ad2, rfl, hx2⟩ := ints_at HC2.out k hl2
      have hy1 := (HB.out.cell (World.block_lt_of_cell? w _ hx1)).trans hx1
      have hy2 := (HB.out.cell (World.block_lt_of_cell? w _ hx2)).trans hx2
      rw [List.getElem_map] at hy1 hy2
      have HTK : Hid (H.take (k + 1) = H.take k ++ [H[k]]) := Lib.hid (List.take_succ_eq_append_getElem hlt)
      generalize H[k] = h at hy1 hy2 HTK
      have hli : (k : Int) < (H.length : Int) := by omega
      have HRD : Hid (kHit.R tHit wr.drew w.heap.size (fun _ => True) u5 (H.take k)) := Lib.hid (Kd.R_below HR.out (pw_below_drewN (Below.refl _ _) 1))
      have HBD : Hid (Below w.heap.size w wr.drew) := Lib.hid (pw_below_drewN HB.out 1)
      clear hx1 hx2 hl1 hl2
      go_upto_region 5 with fail
      go_region_law (refine Kd.R_append_step kHit (w0 := w) w.heap.size (by rfl) (.tmp 12) (.tmp 22) 49 tHit (.agg #[.int .i64 0, .int .i64 0]) 16 rfl Tryd.underlying49 infoHit rfl (by decide) (by decide) u5 (H.take k) h [.int .i64 h.1, .int .i64 h.2] (fun _ => True) (fun _ => False) rfl rfl (hit_M _ _ _ _) (fun _ hk => hk.elim) (fun _ _ => trivial) HRD.out HBD.out HBD.out.size (by simp; omega) ?_; intro v1 w1 ho hb hg hat)
      all_goals
        have HX1 : Hid (kHit.R tHit w1 w.heap.size (fun _ => True) v1 (H.take (k + 1))) := Lib.hid (by rw [HTK.out]; exact ho)
        have HX2 := Lib.hid hb
        clear ho hb hg hat
        go_wp2_with fail
        exact ⟨⟨k + 1, by omega, by go_num, HX1, HX2⟩, by simp [intOf]; omega⟩
    · obtain rfl : k = H.length := by omega
      have hr := HR.out
      rw [List.take_length] at hr
      have HR2 := Lib.hid hr
      clear hr
      go_wp2_with fail
      go_ret
      exact ⟨_, rfl, HR2.out, HB.out⟩
end Go.Proofs.YtjifoimkjgepcaaDoor.Da
