/-
  The walks of laws.sameFound and laws.sameTrie (where both are equal).
-/
import Derived.Test.YtjifoimkjgepcaaEh
set_option linter.unusedVariables false
set_option linter.unusedSimpArgs false
namespace Go.Proofs.Ytjifoimkjgepcaa.Da
open Go.RowKit Go.ChangeShapes Go.Proofs.Ytjifoimkjgepcaa.K Go.Proofs.YtjifoimkjgepcaaW.PrintWords

set_option maxHeartbeats 400000 in
theorem sameFound_eq (i : Int) (o : Bool) (w : World) : Calls Try.prog 49 #[.agg #[.int .i64 i, .bool o], .agg #[.int .i64 i, .bool o]] w fun e w' => e = .returned (.bool true) ∧ Below w.heap.size w w' := by
  have hB := ((Below.refl w.heap.size w).alloc (Nat.le_refl _) (.cells #[.int .i64 i, .bool o] 39)).alloc (by simp) (.cells #[.int .i64 i, .bool o] 39)
  have HB := Lib.hid hB
  clear hB
  go_enter Try.func49, Try.ntmps49
  cases o
  · go_wp2
    go_ret
    exact ⟨by first | rfl | (simp; done), HB.out⟩
  · go_wp2
    go_ret
    exact ⟨by first | rfl | (simp; done), HB.out⟩
/-- An answer as a value. -/
def ansV (a : Ans) (A1 A2 : Option Addr) (c1 c2 : Nat) : Value := .agg #[.int .i64 a.1.1, .bool a.1.2, .int .i64 a.2.1.1, .bool a.2.1.2, .slice A1 a.2.2.1.length c1, .slice A2 a.2.2.2.length c2]
/-- Two answers lie in memory, and their lists. -/
structure Two (w0 : World) (a : Ans) (A1 A2 B1 B2 : Option Addr) (c1 c2 d1 d2 p q : Nat) (w : World) : Prop where
  bel : Below w0.heap.size w0 w
  at1 : AnsAt p (.int .i64 a.1.1) (.bool a.1.2) (.int .i64 a.2.1.1) (.bool a.2.1.2) (.slice A1 a.2.2.1.length c1) (.slice A2 a.2.2.2.length c2) w
  at2 : AnsAt q (.int .i64 a.1.1) (.bool a.1.2) (.int .i64 a.2.1.1) (.bool a.2.1.2) (.slice B1 a.2.2.1.length d1) (.slice B2 a.2.2.2.length d2) w
  c1 : kHit.C w A1 a.2.2.1.length a.2.2.1
  c2 : kHit.C w A2 a.2.2.2.length a.2.2.2
  d1 : kHit.C w B1 a.2.2.1.length a.2.2.1
  d2 : kHit.C w B2 a.2.2.2.length a.2.2.2
theorem Two.below {w0 : World} {a : Ans} {A1 A2 B1 B2 : Option Addr} {c1 c2 d1 d2 p q : Nat} {w w' : World} (h : Two w0 a A1 A2 B1 B2 c1 c2 d1 d2 p q w) (hb : Below w.heap.size w w') : Two w0 a A1 A2 B1 B2 c1 c2 d1 d2 p q w' :=
  ⟨h.bel.trans (hb.mono h.bel.size), h.at1.below hb, h.at2.below hb, Kd.C_below h.c1 hb, Kd.C_below h.c2 hb, Kd.C_below h.d1 hb, Kd.C_below h.d2 hb⟩
set_option maxHeartbeats 1000000 in
theorem sameTrie_eq (a : Ans) (A1 A2 B1 B2 : Option Addr) (c1 c2 d1 d2 : Nat) (h : Bool) (w : World) (hA1 : kHit.C w A1 a.2.2.1.length a.2.2.1) (hA2 : kHit.C w A2 a.2.2.2.length a.2.2.2) (hB1 : kHit.C w B1 a.2.2.1.length a.2.2.1) (hB2 : kHit.C w B2 a.2.2.2.length a.2.2.2) :
    Calls Try.prog 26 #[ansV a A1 A2 c1 c2, ansV a B1 B2 d1 d2, .bool h] w fun e w' => e = .returned (.bool true) ∧ Below w.heap.size w w' := by
  obtain ⟨W2, hW2⟩ : ∃ W2, W2 = (w.alloc (.cells #[.int .i64 a.1.1, .bool a.1.2, .int .i64 a.2.1.1, .bool a.2.1.2, .slice A1 a.2.2.1.length c1, .slice A2 a.2.2.2.length c2] tAns)).alloc (.cells #[.int .i64 a.1.1, .bool a.1.2, .int .i64 a.2.1.1, .bool a.2.1.2, .slice B1 a.2.2.1.length d1, .slice B2 a.2.2.2.length d2] tAns) := ⟨_, rfl⟩
  have h2 : Two w a A1 A2 B1 B2 c1 c2 d1 d2 w.heap.size (w.heap.size + 1) W2 := by
    rw [hW2]
    refine ⟨((Below.refl _ _).alloc (Nat.le_refl _) _).alloc (by simp) _, heap_old (heap_new w _) _, ?_, Kd.C_alloc (Kd.C_alloc hA1 _) _, Kd.C_alloc (Kd.C_alloc hA2 _) _, Kd.C_alloc (Kd.C_alloc hB1 _) _, Kd.C_alloc (Kd.C_alloc hB2 _) _⟩
    have := heap_new (w.alloc (.cells #[.int .i64 a.1.1, .bool a.1.2, .int .i64 a.2.1.1, .bool a.2.1.2, .slice A1 a.2.2.1.length c1, .slice A2 a.2.2.2.length c2] tAns)) (.cells #[.int .i64 a.1.1, .bool a.1.2, .int .i64 a.2.1.1, .bool a.2.1.2, .slice B1 a.2.2.1.length d1, .slice B2 a.2.2.2.length d2] tAns)
    rw [size_alloc] at this
    exact this
  have H2 := Lib.hid h2
  clear hA1 hA2 hB1 hB2 h2
  unfold ansV
  go_enter Try.func26, Try.ntmps26
  cases h
  · go_wp2_with fail
    rw [← hW2]
    clear hW2
    obtain ⟨q, hq⟩ : ∃ q, q = w.heap.size + 1 := ⟨_, rfl⟩
    obtain ⟨p, hp⟩ : ∃ p, p = w.heap.size := ⟨_, rfl⟩
    rw [← hq] at H2 ⊢
    rw [← hp] at H2 ⊢
    clear hp hq
    obtain ⟨f0, f1, f2, f3, f4, f5⟩ := H2.out.at1.c
    obtain ⟨g0, g1, g2, g3, g4, g5⟩ := H2.out.at2.c
    refine (sameFound_eq _ _ W2).mono ?_
    rintro e W3 ⟨rfl, hb⟩
    have H3 := Lib.hid (H2.out.below hb)
    clear hb f0 f1 f2 f3 f4 f5 g0 g1 g2 g3 g4 g5
    obtain ⟨f0, f1, f2, f3, f4, f5⟩ := H3.out.at1.c
    obtain ⟨g0, g1, g2, g3, g4, g5⟩ := H3.out.at2.c
    go_wp2_with fail
    refine (sameFound_eq _ _ W3).mono ?_
    rintro e W4 ⟨rfl, hb⟩
    have H4 := Lib.hid (H3.out.below hb)
    clear hb f0 f1 f2 f3 f4 f5 g0 g1 g2 g3 g4 g5
    obtain ⟨f0, f1, f2, f3, f4, f5⟩ := H4.out.at1.c
    obtain ⟨g0, g1, g2, g3, g4, g5⟩ := H4.out.at2.c
    go_wp2_with fail
    refine (sameHit_eq A1 B1 c1 d1 a.2.2.1 W4 H4.out.c1 H4.out.d1).mono ?_
    rintro e W5 ⟨rfl, hb⟩
    have H5 := Lib.hid (H4.out.below hb)
    clear hb f0 f1 f2 f3 f4 f5 g0 g1 g2 g3 g4 g5
    obtain ⟨f0, f1, f2, f3, f4, f5⟩ := H5.out.at1.c
    obtain ⟨g0, g1, g2, g3, g4, g5⟩ := H5.out.at2.c
    go_wp2_with fail
    refine (sameHit_eq A2 B2 c2 d2 a.2.2.2 W5 H5.out.c2 H5.out.d2).mono ?_
    rintro e W6 ⟨rfl, hb⟩
    have H6 := Lib.hid (H5.out.below hb)
    clear hb f0 f1 f2 f3 f4 f5 g0 g1 g2 g3 g4 g5
    obtain ⟨f0, f1, f2, f3, f4, f5⟩ := H6.out.at1.c
    obtain ⟨g0, g1, g2, g3, g4, g5⟩ := H6.out.at2.c
    go_wp2_with fail
    go_ret
    exact ⟨by first | rfl | (simp; done), H6.out.bel⟩
  · go_wp2_with fail
    rw [← hW2]
    clear hW2
    obtain ⟨q, hq⟩ : ∃ q, q = w.heap.size + 1 := ⟨_, rfl⟩
    obtain ⟨p, hp⟩ : ∃ p, p = w.heap.size := ⟨_, rfl⟩
    rw [← hq] at H2 ⊢
    rw [← hp] at H2 ⊢
    clear hp hq
    obtain ⟨f0, f1, f2, f3, f4, f5⟩ := H2.out.at1.c
    obtain ⟨g0, g1, g2, g3, g4, g5⟩ := H2.out.at2.c
    refine (sameFound_eq _ _ W2).mono ?_
    rintro e W3 ⟨rfl, hb⟩
    have H3 := Lib.hid (H2.out.below hb)
    clear hb f0 f1 f2 f3 f4 f5 g0 g1 g2 g3 g4 g5
    obtain ⟨f0, f1, f2, f3, f4, f5⟩ := H3.out.at1.c
    obtain ⟨g0, g1, g2, g3, g4, g5⟩ := H3.out.at2.c
    go_wp2_with fail
    refine (sameHit_eq A1 B1 c1 d1 a.2.2.1 W3 H3.out.c1 H3.out.d1).mono ?_
    rintro e W4 ⟨rfl, hb⟩
    have H4 := Lib.hid (H3.out.below hb)
    clear hb f0 f1 f2 f3 f4 f5 g0 g1 g2 g3 g4 g5
    obtain ⟨f0, f1, f2, f3, f4, f5⟩ := H4.out.at1.c
    obtain ⟨g0, g1, g2, g3, g4, g5⟩ := H4.out.at2.c
    go_wp2_with fail
    refine (sameHit_eq A2 B2 c2 d2 a.2.2.2 W4 H4.out.c2 H4.out.d2).mono ?_
    rintro e W5 ⟨rfl, hb⟩
    have H5 := Lib.hid (H4.out.below hb)
    clear hb f0 f1 f2 f3 f4 f5 g0 g1 g2 g3 g4 g5
    obtain ⟨f0, f1, f2, f3, f4, f5⟩ := H5.out.at1.c
    obtain ⟨g0, g1, g2, g3, g4, g5⟩ := H5.out.at2.c
    go_wp2_with fail
    go_ret
    exact ⟨by first | rfl | (simp; done), H5.out.bel⟩
end Go.Proofs.Ytjifoimkjgepcaa.Da
