/-
  The walks of slices.Clone[[]rune] and impl.splitterOf.
-/
import Derived.Test.YtaniafohcaiedaaDoorSc
import Derived.Deep.RegionHeld3
set_option linter.unusedVariables false
set_option linter.unusedSimpArgs false
namespace Go.Proofs.YtaniafohcaiedaaDoor.Sn
open Go.RowKit Go.Proofs.YtaniafohcaiedaaDoor.K Go.Proofs.YtaniafohcaiedaaDoorW.PrintWords

set_option maxHeartbeats 400000 in
theorem clone_runes (A : Option Addr) (c : Nat) (xs : List Int) (w : World) (hC : (Kd.int .i32).C w A xs.length xs) (hb : xs.length ≤ 2147483647) :
    Calls Tryd.prog 70 #[.slice A xs.length c] w (RetRow (Kd.int .i32) 21 xs w) := by
  have q := fun (w : World) (a : Option Addr) (n c n' c' : Nat) => Lib.run_eql_slice_nil (P := Tryd.prog) w _ _ a n c n' c' Tryd.underlying46
  have HC := Lib.hid hC
  clear hC
  rcases A with _ | ad
  · have h0 : xs = [] := by
      cases xs with
      | nil => rfl
      | cons x r => obtain ⟨ad, h, _⟩ := HC.out.2.2 (by simp); cases h
    subst h0
    go_enter Tryd.func70, Tryd.ntmps70
    go_wp2
    go_ret
    exact ⟨_, rfl, Kd.R_nil _ _ _ _ _, Below.refl _ _⟩
  · go_enter Tryd.func70, Tryd.ntmps70
    go_wp2_with (at_builtin; refine Kd.R_append_rows (Kd.int .i32) (Rr := (Kd.int .i32).K (w.alloc (.cells #[] 21))) (w0 := w) w.heap.size rfl _ _ 46 21 (.int .i32 0) 4 rfl Tryd.underlying46 (by kernel_rfl) rfl (by decide) (by decide) (.slice (some ⟨w.heap.size, 0, none⟩) 0 0) [] xs (some ad) xs.length c (fun _ => True) (fun _ => False) rfl rfl (R_empty _ _ _ _ (Nat.le_refl _)) (Kd.C_alloc HC.out _) (fun _ _ h => h) (fun _ h => h.elim) (fun _ _ => trivial) ((Below.refl _ _).alloc (Nat.le_refl _) _) (by simp) (by simp; omega) ?_)
    intro v1 w1 hR hB hg hat
    go_wp2
    go_ret
    exact ⟨v1, rfl, hR, hB⟩

theorem R_from {α : Type} {d : Kd α} {e : Nat} {w : World} {base b b' : Nat} {ok : Nat → Prop} {v : Value} {xs : List α} (h : d.R e w base ok v xs) (h1 : b ≤ base) (h2 : b' ≤ base) : d.R e w b' (fun k => b ≤ k) v xs :=
  Kd.R_lower (Kd.R_mono (Kd.R_bound h) (fun k hk => Nat.le_trans h1 hk.2.1)) h2
theorem szof {B : Nat} {w0 w : World} (h : Hid (Below B w0 w)) : w0.heap.size ≤ w.heap.size := h.out.size
theorem hid_trans {B : Nat} {w0 w w1 : World} (hB : B ≤ w0.heap.size) (h : Hid (Below B w0 w)) (k : Below w.heap.size w w1) : Below B w0 w1 := below_then h.out (Nat.le_trans hB h.out.size) k
theorem hid_drew {B : Nat} {w0 w : World} (h : Hid (Below B w0 w)) : Hid (Below B w0 w.drew) := Lib.hid h.out.drew
theorem fro5 {w : World} {g : Nat} {cs : Array Value} {t : TypeId} (h : w.heap[g]? = some (.cells cs t (0, 0))) :
    w.frozen? ⟨g, 0, none⟩ = false ∧ w.frozen? ⟨g, 1, none⟩ = false ∧ w.frozen? ⟨g, 2, none⟩ = false ∧ w.frozen? ⟨g, 3, none⟩ = false ∧ w.frozen? ⟨g, 4, none⟩ = false :=
  ⟨frozen_of_heap h 0, frozen_of_heap h 1, frozen_of_heap h 2, frozen_of_heap h 3, frozen_of_heap h 4⟩
theorem hid_set5 {B g : Nat} {w0 w : World} {a b c d e : Value} (h : Hid (Below B w0 w)) (hg : B ≤ g) : Hid (Below B w0 (((((w.setCell ⟨g, 0, none⟩ a).setCell ⟨g, 1, none⟩ b).setCell ⟨g, 2, none⟩ c).setCell ⟨g, 3, none⟩ d).setCell ⟨g, 4, none⟩ e)) :=
  Lib.hid (((((h.out.setCell (p := ⟨g, 0, none⟩) hg _).setCell (p := ⟨g, 1, none⟩) hg _).setCell (p := ⟨g, 2, none⟩) hg _).setCell (p := ⟨g, 3, none⟩) hg _).setCell (p := ⟨g, 4, none⟩) hg _)
theorem keepB5 {B : Nat} {w0 w1 : World} {g : Nat} (hgB : g < B) {a b c d e : Value} {t : TypeId} (h0 : w0.heap[g]? = some (.cells #[a, b, c, d, e] t (0, 0))) (h : Hid (Below B w0 w1)) :
    w1.cell? ⟨g, 0, none⟩ = some a ∧ w1.cell? ⟨g, 1, none⟩ = some b ∧ w1.cell? ⟨g, 2, none⟩ = some c ∧ w1.cell? ⟨g, 3, none⟩ = some d ∧ w1.cell? ⟨g, 4, none⟩ = some e ∧ Hid (Below B w0 w1) := by
  obtain ⟨h1, h2, h3, h4, h5⟩ := cells5 ((h.out.block g hgB).trans h0)
  exact ⟨h1, h2, h3, h4, h5, h⟩
theorem set5 {w : World} {g : Nat} {z0 z1 z2 z3 z4 a b c d e : Value} {t : TypeId} (h : w.heap[g]? = some (.cells #[z0, z1, z2, z3, z4] t (0, 0))) :
    (((((w.setCell ⟨g, 0, none⟩ a).setCell ⟨g, 1, none⟩ b).setCell ⟨g, 2, none⟩ c).setCell ⟨g, 3, none⟩ d).setCell ⟨g, 4, none⟩ e).heap[g]? = some (.cells #[a, b, c, d, e] t (0, 0)) := by
  have h1 := heap_set (heap_set (heap_set (heap_set (heap_set h 0 a) 1 b) 2 c) 3 d) 4 e
  simpa using h1
theorem R_set5 {w : World} {g : Nat} {a b c d e : Value} {v : Value} {xs : List Int} {base B : Nat} (h : (Kd.int .i32).R 21 w base (fun k => B ≤ k) v xs) (hg : g < B) :
    (Kd.int .i32).R 21 (((((w.setCell ⟨g, 0, none⟩ a).setCell ⟨g, 1, none⟩ b).setCell ⟨g, 2, none⟩ c).setCell ⟨g, 3, none⟩ d).setCell ⟨g, 4, none⟩ e) base (fun k => B ≤ k) v xs :=
  Kd.R_far (Kd.R_far (Kd.R_far (Kd.R_far (Kd.R_far h (fun k hk => by show k ≠ g; omega) _) (fun k hk => by show k ≠ g; omega) _) (fun k hk => by show k ≠ g; omega) _) (fun k hk => by show k ≠ g; omega) _) (fun k hk => by show k ≠ g; omega) _
def SplRet (dl fl : List Int) (sk db : Bool) (most : Int) (w : World) (e : Ending) (w' : World) : Prop :=
  ∃ D F cd cf, e = .returned (splV D F dl.length cd fl.length cf sk db most) ∧ (Kd.int .i32).C w' D dl.length dl ∧ (Kd.int .i32).C w' F fl.length fl ∧ Below w.heap.size w w'

theorem spl_fin {dl fl : List Int} {sk db : Bool} {most : Int} {w w5 : World} {g B base base' : Nat} {A4 A5 : Option Addr} {c4 c5 : Nat} (h4 : (Kd.int .i32).R 21 w5 base (fun k => B ≤ k) (.slice A4 dl.length c4) dl) (h5 : (Kd.int .i32).R 21 w5 base' (fun k => B ≤ k) (.slice A5 fl.length c5) fl) (hg : g < B)
    (hb : Below w.heap.size w (((((w5.setCell ⟨g, 0, none⟩ (.slice A4 dl.length c4)).setCell ⟨g, 1, none⟩ (.slice A5 fl.length c5)).setCell ⟨g, 2, none⟩ (.bool sk)).setCell ⟨g, 3, none⟩ (.bool db)).setCell ⟨g, 4, none⟩ (.int .i64 most))) :
    SplRet dl fl sk db most w (.returned (.agg #[.slice A4 dl.length c4, .slice A5 fl.length c5, .bool sk, .bool db, .int .i64 most])) (((((w5.setCell ⟨g, 0, none⟩ (.slice A4 dl.length c4)).setCell ⟨g, 1, none⟩ (.slice A5 fl.length c5)).setCell ⟨g, 2, none⟩ (.bool sk)).setCell ⟨g, 3, none⟩ (.bool db)).setCell ⟨g, 4, none⟩ (.int .i64 most)) :=
  ⟨A4, A5, c4, c5, rfl, (Kd.R_reads' (R_set5 h4 hg)).2.2, (Kd.R_reads' (R_set5 h5 hg)).2.2, hb⟩
set_option maxHeartbeats 4000000 in
set_option maxRecDepth 5000 in
theorem splitterOf_any (D F : Option Addr) (cd cf : Nat) (sk db : Bool) (most : Int) (dl fl : List Int) (w : World) (hD : (Kd.int .i32).C w D dl.length dl) (hF : (Kd.int .i32).C w F fl.length fl) (hdl : dl.length ≤ 2147483647) (hfl : fl.length ≤ 2147483647) :
    Calls Tryd.prog 53 #[splV D F dl.length cd fl.length cf sk db most] w (SplRet dl fl sk db most w) := by
  have hDm := hD.2.1
  have hFm := hF.2.1
  have HD := Lib.hid hD
  have HF := Lib.hid hF
  clear hD hF
  show Calls _ _ #[.agg #[.slice D dl.length cd, .slice F fl.length cf, .bool sk, .bool db, .int .i64 most]] w _
  go_enter Tryd.func53, Tryd.ntmps53
  have hg0 := heap_old (heap_new w (.cells #[.slice D dl.length cd, .slice F fl.length cf, .bool sk, .bool db, .int .i64 most] 50)) (.cells #[.slice none 0 0, .slice none 0 0, .bool false, .bool false, .int .i64 0] 104)
  have hg1 := heap_new (w.alloc (.cells #[.slice D dl.length cd, .slice F fl.length cf, .bool sk, .bool db, .int .i64 most] 50)) (.cells #[.slice none 0 0, .slice none 0 0, .bool false, .bool false, .int .i64 0] 104)
  rw [size_alloc] at hg1
  have hbw : Below w.heap.size w ((w.alloc (.cells #[.slice D dl.length cd, .slice F fl.length cf, .bool sk, .bool db, .int .i64 most] 50)).alloc (.cells #[.slice none 0 0, .slice none 0 0, .bool false, .bool false, .int .i64 0] 104)) := ((Below.refl _ _).alloc (Nat.le_refl _) _).alloc (by simp) _
  go_wp2_with fail
  generalize hW0 : (w.alloc (.cells #[.slice D dl.length cd, .slice F fl.length cf, .bool sk, .bool db, .int .i64 most] 50)).alloc (.cells #[.slice none 0 0, .slice none 0 0, .bool false, .bool false, .int .i64 0] 104) = w0 at hg0 hg1 hbw ⊢
  have hz0 : w0.heap.size = w.heap.size + 2 := by rw [← hW0]; simp
  have hgw : w.heap.size + 1 < w0.heap.size := by omega
  have H0 := Lib.hid hg0
  have H1 := Lib.hid hg1
  have HBW := Lib.hid hbw
  have HCd := Lib.hid (fun W (h : Below (w.heap.size + 1) w0 W) => clone_runes D cd dl W (Kd.C_below HD.out (hbw.trans (h.mono (Nat.le_succ _)))) hdl)
  have HCf := Lib.hid (fun W (h : Below (w.heap.size + 1) w0 W) => clone_runes F cf fl W (Kd.C_below HF.out (hbw.trans (h.mono (Nat.le_succ _)))) hfl)
  obtain ⟨c0, c1, c2, c3, c4⟩ := cells5 hg0
  have HS := Lib.hid (Below.refl (w.heap.size + 1) w0)
  have hle : w.heap.size + 1 ≤ w0.heap.size := by omega
  have hg1d : w0.drew.heap[w.heap.size + 1]? = some (.cells #[.slice none 0 0, .slice none 0 0, .bool false, .bool false, .int .i64 0] 104 (0, 0)) := hg1
  clear hz0 hg0 hg1 hbw hW0 HD HF
  go_region_held3 (fun w' => w'.cell? ⟨w.heap.size, 0, none⟩ = some (.slice D dl.length cd) ∧ w'.cell? ⟨w.heap.size, 1, none⟩ = some (.slice F fl.length cf) ∧ w'.cell? ⟨w.heap.size, 2, none⟩ = some (.bool sk) ∧ w'.cell? ⟨w.heap.size, 3, none⟩ = some (.bool db) ∧ w'.cell? ⟨w.heap.size, 4, none⟩ = some (.int .i64 most) ∧ Hid (Below (w.heap.size + 1) w0 w'))
    (first
      | (go_split_ands; refine keepB5 (Nat.lt_succ_self _) H0.out ?_; (first
        | with_reducible assumption
        | (refine Lib.hid (hid_trans hle ?_ hlq.out); with_reducible assumption)
        | (refine hid_set5 ?_ (Nat.le_refl _); with_reducible assumption)
        | ((repeat' (first | with_reducible assumption | with_reducible exact HS | refine hid_drew ?_)) <;> (first | (simp; done) | (simp; omega))))))
    (first
      | (go_at_call 70; go_split_ands; (with_reducible refine (HCd.out _ (Hid.out (by assumption))).mono ?_); rintro e w4 ⟨v4, rfl, hR4, hlq'⟩; have hlq := Lib.hid hlq'; have HL4 := Lib.hid hlq'; have HR4 := Lib.hid (R_from (b := w0.heap.size) (b' := w0.heap.size) hR4 (szof (by assumption)) (szof (by assumption))); have hBq : Hid (Below (w.heap.size + 1) w0 w4) := Lib.hid (hid_trans hle (by assumption) hlq'); have hgz := blk_keep (g := w.heap.size + 1) (o := .cells #[.slice none 0 0, .slice none 0 0, .bool false, .bool false, .int .i64 0] 104 (0, 0)) (by assumption) hlq'; obtain ⟨z0, z1, z2, z3, z4⟩ := cells5 hgz; obtain ⟨f0, f1, f2, f3, f4⟩ := fro5 hgz; obtain ⟨A4, c4, hv4⟩ := Kd.R_slice hR4; subst hv4; clear hlq' hR4)
      | (go_at_call 70; go_split_ands; (with_reducible refine (HCf.out _ (Hid.out (by assumption))).mono ?_); rintro e w5 ⟨v5, rfl, hR5, hlq'⟩; have hlq := Lib.hid hlq'; have HL5 := Lib.hid hlq'; have HR5 := Lib.hid (R_from (b := w0.heap.size) (b' := w0.heap.size) hR5 (szof (by assumption)) (szof (by assumption))); have hBq : Hid (Below (w.heap.size + 1) w0 w5) := Lib.hid (hid_trans hle (by assumption) hlq'); have hgz := blk_keep (g := w.heap.size + 1) (o := .cells #[.slice none 0 0, .slice none 0 0, .bool false, .bool false, .int .i64 0] 104 (0, 0)) (by assumption) hlq'; obtain ⟨z0, z1, z2, z3, z4⟩ := cells5 hgz; obtain ⟨f0, f1, f2, f3, f4⟩ := fro5 hgz; obtain ⟨A5, c5, hv5⟩ := Kd.R_slice hR5; subst hv5; clear hlq' hR5))
  all_goals go_wp2_with fail
  · have h4 := Lib.hid (Kd.R_below HR4.out HL5.out)
    have hfin := set5 (g := w.heap.size + 1) (a := .slice A4 dl.length c4) (b := .slice A5 fl.length c5) (c := .bool sk) (d := .bool db) (e := .int .i64 most) (show w5.heap[w.heap.size + 1]? = some (.cells #[.slice none 0 0, .slice none 0 0, .bool false, .bool false, .int .i64 0] 104 (0, 0)) by assumption)
    obtain ⟨q0, q1, q2, q3, q4⟩ := cells5 hfin
    have hb5 : Hid (Below (w.heap.size + 1) w0 w5) := by assumption
    refine bodyPost_ret (v := .agg #[.slice A4 dl.length c4, .slice A5 fl.length c5, .bool sk, .bool db, .int .i64 most]) (by simp [results, Tryd.results53, go_sem, q0, q1, q2, q3, q4]) rfl (spl_fin h4.out HR5.out (by omega) (HBW.out.trans (((hid_set5 hb5 (Nat.le_refl _)).out).mono (Nat.le_succ _))))
end Go.Proofs.YtaniafohcaiedaaDoor.Sn
