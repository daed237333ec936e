/-
  The walks of the names of modes: spec.ModeName, TokenizeMode.String, impl.ModeName, laws.FnModeNames.
-/
import Derived.Test.YtaniafohcaiedaaDoorK
import Derived.Test.YtaniafohcaiedaaDoorShelf
import Derived.Test.YtaniafohcaiedaaDoorRows
import Derived.Lib.LaidTab
import Derived.Lib.ItoaLen
import Derived.MakeChecks
import Derived.Lib.SmallJoins
import Derived.Lib.AppendIntMem
set_option linter.unusedVariables false
set_option linter.unusedSimpArgs false
namespace Go.Proofs.YtaniafohcaiedaaDoor.Mode
open Go.RowKit Go.Proofs.YtaniafohcaiedaaDoor.K Go.Proofs.YtaniafohcaiedaaDoorW.PrintWords

abbrev pow := "internal/strconv.uint64pow10"
abbrev TI (w : World) : Prop := Lib.TabIs Tryd.prog w pow .u64 Lib.pow10Tab
abbrev sNormal : ByteArray := ⟨#[110, 111, 114, 109, 97, 108]⟩
abbrev sSearch : ByteArray := ⟨#[115, 101, 97, 114, 99, 104]⟩
abbrev sExtend : ByteArray := ⟨#[101, 120, 116, 101, 110, 100]⟩
abbrev sUnk : ByteArray := ⟨#[117, 110, 107, 110, 111, 119, 110, 32, 116, 111, 107, 101, 110, 105, 122, 101, 32, 109, 111, 100, 101, 32, 40]⟩
def modeS (m : Int) : ByteArray := if m = 1 then sNormal else if m = 2 then sSearch else if m = 3 then sExtend else sUnk ++ ⟨(Lib.itoa m).toArray⟩ ++ ⟨#[41]⟩

theorem ti_stays {w w' : World} (h : TI w) (hb : Below w.heap.size w w') : TI w' := Go.Joins.tab_stays (by kernel_rfl : Tryd.prog.globalNamed pow = some 6) h hb (Nat.le_refl _)

set_option maxHeartbeats 400000 in
theorem spec_any (m : Int) (h0 : -9223372036854775808 ≤ m) (h1 : m ≤ 9223372036854775807) (w : World) (ht : TI w) :
    Calls Tryd.prog 22 #[.int .i64 m] w fun e w' => e = .returned (.tuple #[.string (modeS m), .bool true]) ∧ Below w.heap.size w w' := by
  have HT := Lib.hid ht
  clear ht
  go_enter Tryd.func22, Tryd.ntmps22
  by_cases e1 : m = 1
  · subst e1
    go_wp2
    go_ret2
    exact ⟨rfl, Below.refl _ _⟩
  by_cases e2 : m = 2
  · subst e2
    go_wp2
    go_ret2
    exact ⟨rfl, Below.refl _ _⟩
  by_cases e3 : m = 3
  · subst e3
    go_wp2
    go_ret2
    exact ⟨rfl, Below.refl _ _⟩
  go_wp2_with fail
  refine (Tryd.strconv_Itoa m h0 h1 w HT.out).mono ?_
  rintro e w1 ⟨rfl, k, os, rfl⟩
  have hl := Lib.itoa_length_le m h0 h1
  go_wp2
  go_ret2
  exact ⟨by simp [modeS, e1, e2, e3], Lib.below_grow _ _ (Nat.le_refl _) _ _⟩

set_option maxHeartbeats 400000 in
theorem tok_any (m : Int) (h0 : -9223372036854775808 ≤ m) (h1 : m ≤ 9223372036854775807) (w : World) (ht : TI w) :
    Calls Tryd.prog 52 #[.int .i64 m] w fun e w' => e = .returned (.string (modeS m)) ∧ Below w.heap.size w w' := by
  have HT := Lib.hid ht
  clear ht
  go_enter Tryd.func52, Tryd.ntmps52
  by_cases e1 : m = 1
  · subst e1
    go_wp2
    go_ret
    exact ⟨rfl, Below.refl _ _⟩
  by_cases e2 : m = 2
  · subst e2
    go_wp2
    go_ret
    exact ⟨rfl, Below.refl _ _⟩
  by_cases e3 : m = 3
  · subst e3
    go_wp2
    go_ret
    exact ⟨rfl, Below.refl _ _⟩
  go_wp2_with fail
  refine (Tryd.strconv_Itoa m h0 h1 w HT.out).mono ?_
  rintro e w1 ⟨rfl, k, os, rfl⟩
  have hl := Lib.itoa_length_le m h0 h1
  go_wp2
  go_ret
  exact ⟨by simp [modeS, e1, e2, e3], Lib.below_grow _ _ (Nat.le_refl _) _ _⟩

theorem impl_any (m : Int) (h0 : -9223372036854775808 ≤ m) (h1 : m ≤ 9223372036854775807) (w : World) (ht : TI w) :
    Calls Tryd.prog 23 #[.int .i64 m] w fun e w' => e = .returned (.string (modeS m)) ∧ Below w.heap.size w w' := by
  have HT := Lib.hid ht
  clear ht
  go_enter Tryd.func23, Tryd.ntmps23
  go_wp2_with fail
  refine (tok_any m h0 h1 w HT.out).mono ?_
  rintro e w1 ⟨rfl, hw1⟩
  go_wp2
  go_ret
  exact ⟨rfl, hw1⟩

theorem mode1 : modeS 1 = sNormal := rfl

set_option maxHeartbeats 400000 in
theorem walk (m : Int) (h0 : -9223372036854775808 ≤ m) (h1 : m ≤ 9223372036854775807) (w : World) (ht : TI w) :
    Calls Tryd.prog 6 #[.int .i64 m] w fun e w' => e = .returned (.bool true) ∧ Below w.heap.size w w' := by
  have HT := Lib.hid ht
  clear ht
  go_enter Tryd.func6, Tryd.ntmps6
  go_wp2_with fail
  refine (spec_any m h0 h1 w HT.out).mono ?_
  rintro e w1 ⟨rfl, hw1⟩
  have HT1 := Lib.hid (ti_stays HT.out hw1)
  have HW1 := Lib.hid hw1
  clear hw1
  go_wp2_with fail
  refine (impl_any m h0 h1 w1 HT1.out).mono ?_
  rintro e w2 ⟨rfl, hw2⟩
  have HT2 := Lib.hid (ti_stays HT1.out hw2)
  have HW2 := Lib.hid (HW1.out.trans (hw2.mono HW1.out.size))
  clear hw2
  go_wp2_with fail
  refine (impl_any 1 (by decide) (by decide) w2 HT2.out).mono ?_
  rintro e w3 ⟨rfl, hw3⟩
  have HW3 := Lib.hid (HW2.out.trans (hw3.mono HW2.out.size))
  clear hw3
  go_wp2
  go_ret
  exact ⟨by rw [show modeS 1 = sNormal from rfl]; simp, HW3.out⟩

theorem ti_of_laid {W : World} (h : laidMetH Tryd.prog Rows.fnModeNamesRow.laid W) : TI W := by
  rw [MakeChecks.laidMetH_plain _ _ _ (by kernel_rfl)] at h
  obtain ⟨ps, ⟨g0, t0, cs0, f0, p0, q0, hg0, ht0, hv0, hd0, ⟨g1, t1, cs1, f1, p1, q1, hg1, ht1, hv1, hd1, hr2, e1⟩, e0⟩, hn, hm⟩ := h
  obtain ⟨g2, t2, cs2, f2, p2, q2, hg2, ht2, hv2, hd2, hr3, e2⟩ := hr2
  obtain rfl := Option.some.inj ((show Tryd.prog.globalNamed pow = some 6 by kernel_rfl).symm.trans hg2)
  obtain rfl := Option.some.inj ((show (Tryd.prog.globals[6]?).map (·.type) = some 181 by kernel_rfl).symm.trans ht2)
  unfold TI Lib.TabIs
  rw [hv2, ← Lib.cells_of_tab (e := 91) (zs := Lib.pow10Tab) Tryd.underlying181 Tryd.underlying91 (by kernel_rfl) (by kernel_rfl) hd2]
end Go.Proofs.YtaniafohcaiedaaDoor.Mode
