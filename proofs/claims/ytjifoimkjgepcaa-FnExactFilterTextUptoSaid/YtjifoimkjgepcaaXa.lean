/-
  The walks of (*strings.Builder).copyCheck and WriteString.
-/
import Derived.Test.YtjifoimkjgepcaaK
import Derived.Test.YtjifoimkjgepcaaShelf
set_option linter.unusedVariables false
set_option linter.unusedSimpArgs false
namespace Go.Proofs.Ytjifoimkjgepcaa.Fx
open Go.RowKit Go.Proofs.Ytjifoimkjgepcaa.K Go.Proofs.YtjifoimkjgepcaaW.PrintWords

abbrev tBd : Nat := 116
abbrev tU8 : Nat := 5
set_option maxHeartbeats 1000000 in
set_option maxRecDepth 100000 in
theorem copyCheck_fresh (b : Nat) (w : World) (h0 : w.cell? ⟨b, 0, none⟩ = some (.pointer none)) (hsh : w.shape? b = some (tBd, 2)) (hfz : w.frozen? ⟨b, 0, none⟩ = false) :
    Calls Try.prog 101 #[.pointer (some ⟨b, 0, none⟩)] w fun e w' => e = .returned (.tuple #[]) ∧ w' = w.setCell ⟨b, 0, none⟩ (.pointer (some ⟨b, 0, none⟩)) := by
  obtain ⟨j, hj, hjs⟩ : ∃ j, Try.prog.info? tBd = some j ∧ j.size ≠ 0 := ⟨_, rfl, by decide⟩
  have h1 : (convert 114 185 (.pointer (some ⟨b, 0, none⟩))).run Try.prog w = .ok (.pointer (some ⟨b, 0, none⟩)) w :=
    Lib.run_to_unsafe w ⟨b, 0, none⟩ (by kernel_rfl) (by kernel_rfl) hj hjs hsh (Nat.zero_lt_succ 1)
  have h2 : (convert 185 114 (.pointer (some ⟨b, 0, none⟩))).run Try.prog w = .ok (.pointer (some ⟨b, 0, none⟩)) w :=
    Lib.run_from_unsafe w ⟨b, 0, none⟩ (by kernel_rfl) (by kernel_rfl) hj hsh (by kernel_rfl)
  have h3 : (callFunc 129 #[.pointer (some ⟨b, 0, none⟩)]).run Try.prog w = .ok (.value (.pointer (some ⟨b, 0, none⟩))) w := by
    rw [run_callFunc_extern Try.func129 (by kernel_rfl) (by kernel_rfl) (by kernel_rfl) (e := Extern.AbiNoEscape.same) (by kernel_rfl), Lib.run_noEscape]
    rfl
  go_enter Try.func101, Try.ntmps101
  go_wp2_with fail
  go_end0
  exact ⟨rfl, rfl⟩
set_option maxRecDepth 100000 in
theorem copyCheck_used (b : Nat) (w : World) (h0 : w.cell? ⟨b, 0, none⟩ = some (.pointer (some ⟨b, 0, none⟩))) :
    Calls Try.prog 101 #[.pointer (some ⟨b, 0, none⟩)] w fun e w' => e = .returned (.tuple #[]) ∧ w' = w := by
  obtain ⟨j, hj⟩ : ∃ j, Try.prog.info? tBd = some j := ⟨_, rfl⟩
  have hne : (binOp .neq 114 (.pointer (some ⟨b, 0, none⟩)) (.pointer (some ⟨b, 0, none⟩))).run Try.prog w = .ok (.bool false) w := Lib.run_neq_ptr_same w _ (by kernel_rfl) hj
  go_enter Try.func101, Try.ntmps101
  go_wp2_with fail
  go_end0
  exact ⟨rfl, rfl⟩
theorem copyCheck_any (B b : Nat) (bs : List Value) (w : World) (h : Lib.IsBuilder tBd tU8 B b bs w) :
    Calls Try.prog 101 #[.pointer (some ⟨b, 0, none⟩)] w fun e w' => e = .returned (.tuple #[]) ∧ Lib.BuilderAt tBd tU8 B b (.pointer (some ⟨b, 0, none⟩)) bs w' ∧ Below B w w' := by
  rcases h with h | h
  · refine (copyCheck_fresh b w h.cell0 h.shape h.frozen0).mono ?_
    rintro e w' ⟨rfl, rfl⟩
    exact ⟨rfl, h.used _, (Below.refl B w).setCell (p := ⟨b, 0, none⟩) h.1 _⟩
  · refine (copyCheck_used b w h.cell0).mono ?_
    rintro e w' ⟨rfl, rfl⟩
    exact ⟨rfl, h, Below.refl B _⟩
theorem infoU8 : (Try.prog.info? tU8).map (fun i => (i.zero, i.size, i.bytes)) = some (some (.int .u8 0), 1, 1) := by kernel_rfl
set_option maxHeartbeats 2000000 in
set_option maxRecDepth 100000 in
/-- WriteString: the text's bytes stand behind those that are there. -/
theorem writeString_any (B b : Nat) (bs : List Value) (s : ByteArray) (w : World) (h : Lib.IsBuilder tBd tU8 B b bs w) (hlen : bs.length + s.size ≤ 140737488355328) (hBw : B ≤ w.heap.size) :
    Calls Try.prog 92 #[.pointer (some ⟨b, 0, none⟩), .string s] w fun e w' => e = .returned (.tuple #[.int .i64 s.size, .nilIface]) ∧ Lib.BuilderAt tBd tU8 B b (.pointer (some ⟨b, 0, none⟩)) (bs ++ Lib.strCells s) w' ∧ Below B w w' := by
  obtain ⟨i0, hi, hzz⟩ := Option.map_eq_some_iff.1 infoU8
  simp only [Prod.mk.injEq] at hzz
  obtain ⟨hz0, hz1, hz2⟩ := hzz
  go_enter Try.func92, Try.ntmps92
  go_wp2_with fail
  refine (copyCheck_any B b bs w h).mono ?_
  rintro e w1 ⟨rfl, h1, hb1⟩
  obtain ⟨hB, v, hbk, hown, hne⟩ := h1
  have c0 : w1.cell? ⟨b, 0, none⟩ = some (.pointer (some ⟨b, 0, none⟩)) := cell_of_heap hbk 0
  have c1 : w1.cell? ⟨b, 1, none⟩ = some v := cell_of_heap hbk 1
  go_wp2_with (at_builtin; refine Lib.wpList_append_own_string _ rfl _ _ 60 9 rfl B tU8 i0 (by kernel_rfl) (by kernel_rfl) hi hz0 hz1 hz2 _ _ _ rfl hown s rfl ?c3 ?c4 ?c5 ?_)
  case c3 => unfold maxLen; omega
  case c4 => omega
  case c5 => have := hb1.size; omega
  intro v' w2 hown' hgrow _
  have hb2 : w2.heap[b]? = some (.cells #[.pointer (some ⟨b, 0, none⟩), v] tBd (0, 0)) := (hgrow.block b (lt_of_heap hbk) (fun e => hne e.symm)).trans hbk
  have d0 : w2.cell? ⟨b, 0, none⟩ = some (.pointer (some ⟨b, 0, none⟩)) := cell_of_heap hb2 0
  have d1 : w2.cell? ⟨b, 1, none⟩ = some v := cell_of_heap hb2 1
  have f1 : w2.frozen? ⟨b, 1, none⟩ = false := frozen_of_heap hb2 1
  obtain ⟨ao, n', cap, rfl⟩ : ∃ ao n' cap, v' = .slice ao n' cap := by
    rcases hown'.2 with ⟨hv, _⟩ | ⟨g, cap, cur, hv, _⟩
    · exact ⟨_, _, _, hv⟩
    · exact ⟨_, _, _, hv⟩
  go_wp2_with fail
  go_ret2
  refine ⟨rfl, ?_, ?_⟩
  · exact Lib.BuilderAt.put (T := tBd) (e := tU8) hB hb2 (bs' := bs ++ Lib.strCells s) (by simpa [Lib.strCells_length] using hown') (by decide)
  · exact (hb1.grown hgrow (by have := hb1.size; omega) (fun k hk => (hown.lt k hk).1)).setCell (p := ⟨b, 1, none⟩) hB _
end Go.Proofs.Ytjifoimkjgepcaa.Fx
