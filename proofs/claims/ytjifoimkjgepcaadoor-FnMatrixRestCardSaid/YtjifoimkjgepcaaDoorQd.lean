/-
  The walks of builder.ZzMatrix, impl.Matrix and laws.reads.
-/
import Derived.Test.YtjifoimkjgepcaaDoorQc
import Derived.Test.YtjifoimkjgepcaaDoorSameInt
import Derived.Defers
import Derived.Recover
set_option linter.unusedVariables false
set_option linter.unusedSimpArgs false
namespace Go.Proofs.YtjifoimkjgepcaaDoor.Tx
open Go.RowKit Go.Proofs.YtjifoimkjgepcaaDoor.K Go.Proofs.YtjifoimkjgepcaaDoorW.PrintWords

/-- What ZzMatrix returns. -/
def ZRet (R C : Nat) (es : List Ent) (w : World) (e : Ending) (w' : World) : Prop :=
  ((∀ x ∈ es, x.1 < R ∧ x.2.1 < C) ∧ ∃ g, e = .returned (.tuple #[.int .i64 (R : Int), .int .i64 (C : Int), .slice (some ⟨g, 0, none⟩) (R * C) (R * C), .nilIface]) ∧ w'.heap[g]? = some (.cells (vecA (R * C) (vecOf R es)) tI16 (0, 0)) ∧ Below w.heap.size w w') ∨
  ((∃ x ∈ es, ¬ (x.1 < R ∧ x.2.1 < C)) ∧ ∃ p, e = .returned (.tuple #[.int .i64 0, .int .i64 0, .slice none 0 0, .iface 128 (.pointer p)]) ∧ Below w.heap.size w w')
set_option maxHeartbeats 1000000 in
set_option maxRecDepth 5000 in
theorem zz_any (R C : Nat) (es : List Ent) (w : World) (hR : 1 ≤ R ∧ R ≤ 20) (hC : 1 ≤ C ∧ C ≤ 20) (hes : ∀ x ∈ es, EntOk x) (hn : es.length ≤ 1000) :
    Calls Tryd.prog 23 #[.string (ofL (mtx R C es))] w (ZRet R C es w) := by
  have HP := Lib.hid (parse_any R C es w hR hC hes hn)
  generalize mtx R C es = l at HP ⊢
  go_enter Tryd.func23, Tryd.ntmps23
  go_wp2_with fail
  refine HP.out.mono ?_
  rintro e w1 (⟨hin, b, g, rfl, hb, hg, hbel⟩ | ⟨hno, p, rfl, hbel⟩)
  · have c0 : w1.cell? ⟨b, 0, none⟩ = some (.int .i64 (R : Int)) := by rw [cell_of_heap hb]; rfl
    have c1 : w1.cell? ⟨b, 1, none⟩ = some (.int .i64 (C : Int)) := by rw [cell_of_heap hb]; rfl
    have c2 : w1.cell? ⟨b, 2, none⟩ = some (.slice (some ⟨g, 0, none⟩) (R * C) (R * C)) := by rw [cell_of_heap hb]; rfl
    have HG := Lib.hid hg
    have HB := Lib.hid hbel
    have HIN := Lib.hid hin
    clear hb hg hbel hin HP
    go_upto_region 4 with fail
    go_quiet (fail)
    go_wp2_with fail
    refine bodyPost_ret (v := .tuple #[.int .i64 (R : Int), .int .i64 (C : Int), .slice (some ⟨g, 0, none⟩) (R * C) (R * C), .nilIface]) (by simp [results, Tryd.results23, go_sem]) rfl ?_
    exact .inl ⟨HIN.out, g, rfl, HG.out, pw_below_drewN HB.out nq⟩
  · have HB := Lib.hid hbel
    have HNO := Lib.hid hno
    clear hbel hno HP
    go_wp2_with fail
    refine bodyPost_ret (v := .tuple #[.int .i64 0, .int .i64 0, .slice none 0 0, .iface 128 (.pointer p)]) (by simp [results, Tryd.results23, go_sem]) rfl ?_
    exact .inr ⟨HNO.out, p, rfl, HB.out⟩

abbrev tInt : Nat := 3
abbrev OwnI (base : Nat) (v : Value) (xs : List Int) (w : World) : Prop := w.ownsRow base tInt 1 v (xs.map (Value.int .i64)).length (xs.map (Value.int .i64))
theorem OwnI.reads {base n : Nat} {v : Value} {xs : List Int} {w : World} (h : OwnI base v xs w) (hn : xs.length = n) : ∃ A c, v = .slice A n c ∧ (Kd.int .i64).C w A n xs := by
  have h1 : w.ownsRow base tInt 1 v xs.length (encs (Value.int .i64) xs) := by
    have h2 := h
    unfold OwnI at h2
    rw [List.length_map] at h2
    exact h2
  have hr : (Kd.int .i64).R tInt w base (fun _ => True) v xs := Kd.R_of_own h1 (fun _ _ => trivial)
  obtain ⟨A, c, h3, _, h4⟩ := Kd.R_reads hr
  subst hn
  exact ⟨A, c, h3, h4⟩
theorem m_idle (p q r s : Addr) (w : World) :
    CallsD Tryd.prog 21 #[.pointer (some p), .pointer (some q), .pointer (some r), .pointer (some s)] .returning w fun e u' w' => e = .returned (.tuple #[]) ∧ u' = .returning ∧ w' = w := by
  refine callsD_of_wpS Tryd.func21 rfl fun c₀ cs hu => ?_
  apply wpS_seq
  apply wpS_region
  simp [wpOpsS, go_sem, recoverD, hu, Tryd.ntmps21, Exit.thenS]
  refine wpS_cond (t := false) (by simp [Act.eval, Array.replicate]) ?_
  simp only [Bool.false_eq_true, if_false]
  refine wpS_of_wp (wp_skip ?_)
  cases c₀
  simp_all [bodyPostS, results, Tryd.results21]
/-- The four results in memory. -/
def Res4 (b : Nat) (x y v z : Value) (w : World) : Prop := w.heap[b]? = some (.cells #[x] tInt (0, 0)) ∧ w.heap[b + 1]? = some (.cells #[y] tInt (0, 0)) ∧ w.heap[b + 2]? = some (.cells #[v] 23 (0, 0)) ∧ w.heap[b + 3]? = some (.cells #[z] tInt (0, 0))
theorem Res4.keep {b : Nat} {x y v z : Value} {w w' : World} (h : Res4 b x y v z w) (hb : ∀ k, b ≤ k → k < b + 4 → w'.heap[k]? = w.heap[k]?) : Res4 b x y v z w' :=
  ⟨(hb b (by omega) (by omega)).trans h.1, (hb (b + 1) (by omega) (by omega)).trans h.2.1, (hb (b + 2) (by omega) (by omega)).trans h.2.2.1, (hb (b + 3) (by omega) (by omega)).trans h.2.2.2⟩
theorem Res4.set2 {b : Nat} {x y v z : Value} {w : World} (h : Res4 b x y v z w) (u : Value) : Res4 b x y u z (w.setCell ⟨b + 2, 0, none⟩ u) :=
  ⟨by rw [heap_set_ne (by omega)]; exact h.1, by rw [heap_set_ne (by omega)]; exact h.2.1, by rw [heap_set h.2.2.1]; rfl, by rw [heap_set_ne (by omega)]; exact h.2.2.2⟩
theorem Res4.set0 {b : Nat} {x y v z : Value} {w : World} (h : Res4 b x y v z w) (u : Value) : Res4 b u y v z (w.setCell ⟨b, 0, none⟩ u) :=
  ⟨by rw [heap_set h.1]; rfl, by rw [heap_set_ne (by omega)]; exact h.2.1, by rw [heap_set_ne (by omega)]; exact h.2.2.1, by rw [heap_set_ne (by omega)]; exact h.2.2.2⟩
theorem Res4.set1 {b : Nat} {x y v z : Value} {w : World} (h : Res4 b x y v z w) (u : Value) : Res4 b x u v z (w.setCell ⟨b + 1, 0, none⟩ u) :=
  ⟨by rw [heap_set_ne (by omega)]; exact h.1, by rw [heap_set h.2.1]; rfl, by rw [heap_set_ne (by omega)]; exact h.2.2.1, by rw [heap_set_ne (by omega)]; exact h.2.2.2⟩
theorem Res4.set3 {b : Nat} {x y v z : Value} {w : World} (h : Res4 b x y v z w) (u : Value) : Res4 b x y v u (w.setCell ⟨b + 3, 0, none⟩ u) :=
  ⟨by rw [heap_set_ne (by omega)]; exact h.1, by rw [heap_set_ne (by omega)]; exact h.2.1, by rw [heap_set_ne (by omega)]; exact h.2.2.1, by rw [heap_set h.2.2.2]; rfl⟩
theorem Res4.c {b : Nat} {x y v z : Value} {w : World} (h : Res4 b x y v z w) : w.cell? ⟨b, 0, none⟩ = some x ∧ w.cell? ⟨b + 1, 0, none⟩ = some y ∧ w.cell? ⟨b + 2, 0, none⟩ = some v ∧ w.cell? ⟨b + 3, 0, none⟩ = some z :=
  ⟨by rw [cell_of_heap h.1]; rfl, by rw [cell_of_heap h.2.1]; rfl, by rw [cell_of_heap h.2.2.1]; rfl, by rw [cell_of_heap h.2.2.2]; rfl⟩
theorem Res4.f {b : Nat} {x y v z : Value} {w : World} (h : Res4 b x y v z w) : w.frozen? ⟨b, 0, none⟩ = false ∧ w.frozen? ⟨b + 1, 0, none⟩ = false ∧ w.frozen? ⟨b + 2, 0, none⟩ = false ∧ w.frozen? ⟨b + 3, 0, none⟩ = false :=
  ⟨frozen_of_heap h.1 0, frozen_of_heap h.2.1 0, frozen_of_heap h.2.2.1 0, frozen_of_heap h.2.2.2 0⟩
theorem vecOf_bound (R : Nat) {es : List Ent} (h : ∀ x ∈ es, EntOk x) (j : Nat) : -32768 ≤ vecOf R es j ∧ vecOf R es j ≤ 32767 := by
  have H : ∀ (l : List Ent) (f : Nat → Int), (∀ x ∈ l, EntOk x) → (∀ j, -32768 ≤ f j ∧ f j ≤ 32767) → ∀ j, -32768 ≤ (l.foldl (fun f x => updV f (x.2.1 * (R : Int) + x.1).toNat x.2.2) f) j ∧ (l.foldl (fun f x => updV f (x.2.1 * (R : Int) + x.1).toNat x.2.2) f) j ≤ 32767 := by
    intro l
    induction l with
    | nil => intro f _ hf j; exact hf j
    | cons x l ih =>
      intro f hl hf
      refine ih _ (fun y hy => hl y (by simp [hy])) (fun i => ?_)
      show -32768 ≤ updV f (x.2.1 * (R : Int) + x.1).toNat x.2.2 i ∧ updV f (x.2.1 * (R : Int) + x.1).toNat x.2.2 i ≤ 32767
      unfold updV
      split
      · exact (hl x (by simp)).2.2
      · exact hf i
  exact H es _ h (fun _ => by simp) j
/-- The costs of a matrix. -/
def costsL (N : Nat) (f : Nat → Int) : List Int := (List.range N).map f
/-- What impl.Matrix returns. -/
def MRet (R C : Nat) (es : List Ent) (w : World) (e : Ending) (w' : World) : Prop :=
  ((∀ x ∈ es, x.1 < R ∧ x.2.1 < C) ∧ ∃ v, e = .returned (.tuple #[.int .i64 (R : Int), .int .i64 (C : Int), v, .int .i64 0]) ∧ OwnI w.heap.size v (costsL (R * C) (vecOf R es)) w' ∧ Below w.heap.size w w') ∨
  ((∃ x ∈ es, ¬ (x.1 < R ∧ x.2.1 < C)) ∧ e = .returned (.tuple #[.int .i64 0, .int .i64 0, .slice none 0 0, .int .i64 1]) ∧ Below w.heap.size w w')
set_option maxHeartbeats 2000000 in
set_option maxRecDepth 5000 in
theorem matrix_any (R C : Nat) (es : List Ent) (w : World) (hR : 1 ≤ R ∧ R ≤ 20) (hC : 1 ≤ C ∧ C ≤ 20) (hes : ∀ x ∈ es, EntOk x) (hn : es.length ≤ 1000) :
    Calls Tryd.prog 8 #[.string (ofL (mtx R C es))] w (MRet R C es w) := by
  have hmf : ∀ (fn : Fn) (first cap : Array Value) (w : World), (Instr.makeFunc fn first cap).run Tryd.prog w = .ok (.func fn first cap) w := fun _ _ _ _ => rfl
  have HES := Lib.hid hes
  obtain ⟨b, hb⟩ : ∃ b, b = w.heap.size := ⟨_, rfl⟩
  obtain ⟨w1, hw1⟩ : ∃ w1, w1 = (((w.alloc (.cells #[.int .i64 0] tInt)).alloc (.cells #[.int .i64 0] tInt)).alloc (.cells #[.slice none 0 0] 23)).alloc (.cells #[.int .i64 0] tInt) := ⟨_, rfl⟩
  have hr1 : Res4 b (.int .i64 0) (.int .i64 0) (.slice none 0 0) (.int .i64 0) w1 := by
    rw [hw1, hb]
    have e : (((w.alloc (.cells #[.int .i64 0] tInt)).alloc (.cells #[.int .i64 0] tInt)).alloc (.cells #[.slice none 0 0] 23)).alloc (.cells #[.int .i64 0] tInt) = allocs w [.cells #[.int .i64 0] tInt, .cells #[.int .i64 0] tInt, .cells #[.slice none 0 0] 23, .cells #[.int .i64 0] tInt] := rfl
    rw [e]
    exact ⟨allocs_new w _ 0 _ rfl, allocs_new w _ 1 _ rfl, allocs_new w _ 2 _ rfl, allocs_new w _ 3 _ rfl⟩
  have hb1 : Below w.heap.size w w1 := by rw [hw1]; exact ((((Below.refl _ _).alloc (Nat.le_refl _) _).alloc (by simp) _).alloc (by simp; omega) _).alloc (by simp; omega) _
  have hs1 : w1.heap.size = b + 4 := by rw [hw1, hb]; simp
  have HR1 := Lib.hid hr1
  have HB1 := Lib.hid hb1
  have HS1 := Lib.hid hs1
  have HBE := Lib.hid hb
  have HF := Lib.hid (fair_any (mtx R C es) _ _ _ _ _ w1 (mtx_two (es := es) (R := (R : Int)) (C := (C : Int)) (by omega) (by omega) hes hn))
  have HZ := Lib.hid (fun W => zz_any R C es W hR hC hes hn)
  obtain ⟨l, hl⟩ : ∃ l, l = mtx R C es := ⟨_, rfl⟩
  rw [← hl] at HF HZ ⊢
  clear hl hr1 hb1 hs1 hes
  go_enter_defers Tryd.func8, Tryd.ntmps8
  go_upto_region 2 with fail
  rw [← hb, ← hw1]
  clear hw1 hb
  go_wp2_with fail
  refine HF.out.mono ?_
  rintro e w2 ⟨rfl, hb2⟩
  have HR2 := Lib.hid (HR1.out.keep (fun k hk1 hk2 => hb2.block k (by have := HS1.out; omega)))
  have HB2 := Lib.hid (HB1.out.trans (hb2.mono HB1.out.size))
  have HS2 : Hid (b + 4 ≤ w2.heap.size) := Lib.hid (by have := HS1.out; have := hb2.size; omega)
  have HZ2 := Lib.hid (HZ.out w2)
  clear hb2 HF HR1 HB1 HS1 HZ
  go_wp2_with fail
  refine HZ2.out.mono ?_
  rintro e w3 (⟨hin, g, rfl, hg, hbel⟩ | ⟨hno, p, rfl, hbel⟩)
  · have hr3 := HR2.out.keep (fun k hk1 hk2 => hbel.block k (by have := HS2.out; omega))
    have HB3 := Lib.hid (HB2.out.trans (hbel.mono HB2.out.size))
    have HS3 : Hid (b + 4 ≤ w3.heap.size) := Lib.hid (Nat.le_trans HS2.out hbel.size)
    have HIN := Lib.hid hin
    have HR3 := Lib.hid hr3
    obtain ⟨N, hN⟩ : ∃ N, N = R * C := ⟨_, rfl⟩
    have hNb : N ≤ 400 := by rw [hN]; exact Nat.mul_le_mul hR.2 hC.2
    obtain ⟨f, hf⟩ : ∃ f, f = vecOf R es := ⟨_, rfl⟩
    have HFB : Hid (∀ j, -32768 ≤ f j ∧ f j ≤ 32767) := Lib.hid (fun j => by rw [hf]; exact vecOf_bound R HES.out j)
    rw [← hN, ← hf] at hg
    rw [← hN]
    have HG3 := Lib.hid hg
    have HNF := Lib.hid (And.intro hN hf)
    clear hin hg hbel hr3 HZ2 hN hf
    go_upto_region 8 with fail
    go_loopw [11, 27] (fun _ jv wr => ∃ (k : Nat) (v : Value), k ≤ N ∧ jv = .int .i64 k ∧ Hid (Res4 b (.int .i64 0) (.int .i64 0) v (.int .i64 0) wr) ∧ Hid (OwnI (b + 4) v (costsL k f) wr) ∧ Hid (wr.heap[g]? = some (.cells (vecA N f) tI16 (0, 0))) ∧ Hid (b + 4 ≤ wr.heap.size) ∧ Hid (Below w.heap.size w wr)) (fun _ jv _ => N - (intOf jv).toNat)
    case atStart => exact ⟨0, _, Nat.zero_le _, rfl, HR3, Lib.hid (World.ownsRow_nil _ _ _ _), HG3, HS3, HB3⟩
    case round =>
      clear HR3 HG3 HS3 HB3 HR2 HB2 HS2
      obtain ⟨k, v, hk, rfl, HR, HO, HG, HS, HB⟩ := hrel
      have hcl : (costsL k f).length = k := by simp [costsL]
      obtain ⟨Av, cv, rfl, -⟩ := HO.out.reads hcl
      obtain ⟨c0, c1, c2, c3⟩ := HR.out.c
      obtain ⟨f0, f1, f2, f3⟩ := HR.out.f
      by_cases hlt : k < N
      · have hx : wr.cell? ⟨g, k, none⟩ = some (.int .i16 (f k)) := by rw [cell_of_heap HG.out]; exact vec_at hlt
        obtain ⟨hf1, hf2⟩ := HFB.out k
        have HCK : Hid (costsL (k + 1) f = costsL k f ++ [f k]) := Lib.hid (by simp [costsL, List.range_succ])
        generalize f k = fk at hx hf1 hf2 HCK
        have hli : (k : Int) < (N : Int) := by omega
        have hw64 : IntKind.i64.wrap fk = fk := IntWalk.i64_in _ (by omega)
        clear f0 f1 f2 f3 c0 c1 c3
        go_wp2_with (at_builtin; refine app1 (w0 := wr) (b + 4) rfl _ _ 23 tInt (.int .i64 0) 8 rfl Tryd.underlying23 (by kernel_rfl) rfl (by decide) _ ((costsL k f).map (Value.int .i64)) (.int .i64 fk) wr.heap.size rfl rfl (cell_new0 _ _ _) rfl (World.ownsRow.alloc HO.out _) ((Below.refl _ _).alloc HS.out _) (by have := HS.out; simp; omega) (by rw [List.length_map, hcl]; omega) ?_)
        intro v5 w5 hown5 hb5 hgr5 hat5
        have hcl5 : (costsL (k + 1) f).length = k + 1 := by simp [costsL]
        have hO5 : OwnI (b + 4) v5 (costsL (k + 1) f) w5 := by
          unfold OwnI
          rw [List.length_map, hcl5, HCK.out, List.map_append]
          exact hown5
        obtain ⟨Av5, cv5, rfl, -⟩ := hO5.reads hcl5
        have hR5 := HR.out.keep (fun j hj1 hj2 => hb5.block j (by omega))
        have hG5 : w5.heap[g]? = some (.cells (vecA N f) tI16 (0, 0)) := by
          rw [hgr5.block g (by rw [size_alloc]; have := lt_of_heap HG.out; omega) (by
            intro e
            obtain ⟨cur, hc⟩ := own_heap (World.ownsRow.alloc HO.out (.cells #[.int .i64 fk] tInt)) e.symm
            rw [heap_old HG.out] at hc
            injection hc with hc
            injection hc with _ hc
            exact absurd hc (by decide))]
          exact heap_old HG.out _
        have hc5 := hR5.c.2.2.1
        have hf5 := hR5.f.2.2.1
        have HR5 := Lib.hid hR5
        have HO5 := Lib.hid hO5
        have HG5 := Lib.hid hG5
        have HS5 : Hid (b + 4 ≤ w5.heap.size) := Lib.hid (Nat.le_trans HS.out hb5.size)
        have HB5 : Hid (Below w.heap.size w w5) := Lib.hid (HB.out.trans (hb5.mono (by have := HBE.out; omega)))
        clear hown5 hb5 hgr5 hat5 hO5 hR5 hG5 c2
        go_wp2_with fail
        refine ⟨⟨k + 1, .slice Av5 (k + 1) cv5, by omega, by go_num, Lib.hid ?_, Lib.hid ?_, Lib.hid ?_, Lib.hid ?_, Lib.hid ?_⟩, by simp [intOf]; omega⟩
        · exact HR5.out.set2 _
        · exact own_keep HO5.out (fun j hj => heap_set_ne (by have := (World.ownsRow.lt HO5.out j hj).1; omega) 0 _)
        · rw [heap_set_ne (typ_ne HG5.out HR5.out.2.2.1 (by decide))]; exact HG5.out
        · rw [size_set]; exact HS5.out
        · exact HB5.out.setCell (p := ⟨b + 2, 0, none⟩) (by have := HBE.out; show w.heap.size ≤ b + 2; omega) _
      · obtain rfl : k = N := by omega
        go_upto_region 12 with fail
        go_region
        have h4 := (((HR.out.set0 (.int .i64 (R : Int))).set1 (.int .i64 (C : Int))).set2 (.slice Av k cv)).set3 (.int .i64 0)
        have hb4 : Below w.heap.size w ((((wr.setCell ⟨b, 0, none⟩ (.int .i64 (R : Int))).setCell ⟨b + 1, 0, none⟩ (.int .i64 (C : Int))).setCell ⟨b + 2, 0, none⟩ (.slice Av k cv)).setCell ⟨b + 3, 0, none⟩ (.int .i64 0)) :=
          (((HB.out.setCell (p := ⟨b, 0, none⟩) (by have := HBE.out; show w.heap.size ≤ b; omega) _).setCell (p := ⟨b + 1, 0, none⟩) (by have := HBE.out; show w.heap.size ≤ b + 1; omega) _).setCell (p := ⟨b + 2, 0, none⟩) (by have := HBE.out; show w.heap.size ≤ b + 2; omega) _).setCell (p := ⟨b + 3, 0, none⟩) (by have := HBE.out; show w.heap.size ≤ b + 3; omega) _
        have ho4 : OwnI (b + 4) (.slice Av k cv) (costsL k f) ((((wr.setCell ⟨b, 0, none⟩ (.int .i64 (R : Int))).setCell ⟨b + 1, 0, none⟩ (.int .i64 (C : Int))).setCell ⟨b + 2, 0, none⟩ (.slice Av k cv)).setCell ⟨b + 3, 0, none⟩ (.int .i64 0)) :=
          own_keep HO.out (fun j hj => by
            have := (World.ownsRow.lt HO.out j hj).1
            rw [heap_set_ne (by omega), heap_set_ne (by omega), heap_set_ne (by omega), heap_set_ne (by omega)])
        obtain ⟨w9, hw9⟩ : ∃ w9, w9 = ((((wr.setCell ⟨b, 0, none⟩ (.int .i64 (R : Int))).setCell ⟨b + 1, 0, none⟩ (.int .i64 (C : Int))).setCell ⟨b + 2, 0, none⟩ (.slice Av k cv)).setCell ⟨b + 3, 0, none⟩ (.int .i64 0)).drew := ⟨_, rfl⟩
        have H9 : Hid (Res4 b (.int .i64 (R : Int)) (.int .i64 (C : Int)) (.slice Av k cv) (.int .i64 0) w9) := Lib.hid (h4.keep (fun j _ _ => by rw [hw9]; rfl))
        have HB9 : Hid (Below w.heap.size w w9) := Lib.hid (by rw [hw9]; exact hb4.drew)
        have HO9 : Hid (OwnI (b + 4) (.slice Av k cv) (costsL k f) w9) := Lib.hid (own_keep ho4 (fun j _ => by rw [hw9]; rfl))
        refine (show Exit.then _ _ _ _ w9 → _ from fun h => by rw [hw9] at h; exact h) ?_
        clear hw9 h4 hb4 ho4 c0 c1 c2 c3 f0 f1 f2 f3 HR HO HG
        go_wp2_with fail
        obtain ⟨d0, d1, d2, d3⟩ := H9.out.c
        refine leaves_cons (f := 21) (args := #[.pointer (some ⟨b, 0, none⟩), .pointer (some ⟨b + 1, 0, none⟩), .pointer (some ⟨b + 2, 0, none⟩), .pointer (some ⟨b + 3, 0, none⟩)]) (by simp) (by simp [go_sem]) ?_
        refine (m_idle ⟨b, 0, none⟩ ⟨b + 1, 0, none⟩ ⟨b + 2, 0, none⟩ ⟨b + 3, 0, none⟩ _).mono ?_
        rintro e u' w'' ⟨rfl, rfl, rfl⟩
        simp [Leaves, settle, results, Tryd.results8, go_sem, d0, d1, d2, d3]
        refine .inl ⟨HIN.out, _, rfl, ?_, HB9.out⟩
        obtain ⟨e1, e2⟩ := HNF.out
        rw [← e1, ← e2]
        exact own_weaken HO9.out (by have := HBE.out; omega)
  · have hr3 := HR2.out.keep (fun k hk1 hk2 => hbel.block k (by have := HS2.out; omega))
    have HB3 := Lib.hid (HB2.out.trans (hbel.mono HB2.out.size))
    have HNO := Lib.hid hno
    obtain ⟨c0, c1, c2, c3⟩ := hr3.c
    obtain ⟨f0, f1, f2, f3⟩ := hr3.f
    have HR3 := Lib.hid hr3
    clear hbel hno HZ2 hr3
    go_wp2_with fail
    have h4 := (((HR3.out.set0 (.int .i64 0)).set1 (.int .i64 0)).set2 (.slice none 0 0)).set3 (.int .i64 1)
    have hb4 : Below w.heap.size w ((((w3.setCell ⟨b, 0, none⟩ (.int .i64 0)).setCell ⟨b + 1, 0, none⟩ (.int .i64 0)).setCell ⟨b + 2, 0, none⟩ (.slice none 0 0)).setCell ⟨b + 3, 0, none⟩ (.int .i64 1)) :=
      (((HB3.out.setCell (p := ⟨b, 0, none⟩) (by have := HBE.out; show w.heap.size ≤ b; omega) _).setCell (p := ⟨b + 1, 0, none⟩) (by have := HBE.out; show w.heap.size ≤ b + 1; omega) _).setCell (p := ⟨b + 2, 0, none⟩) (by have := HBE.out; show w.heap.size ≤ b + 2; omega) _).setCell (p := ⟨b + 3, 0, none⟩) (by have := HBE.out; show w.heap.size ≤ b + 3; omega) _
    obtain ⟨d0, d1, d2, d3⟩ := h4.c
    clear c0 c1 c2 c3 f0 f1 f2 f3 h4
    refine leaves_cons (f := 21) (args := #[.pointer (some ⟨b, 0, none⟩), .pointer (some ⟨b + 1, 0, none⟩), .pointer (some ⟨b + 2, 0, none⟩), .pointer (some ⟨b + 3, 0, none⟩)]) (by simp) (by simp [go_sem]) ?_
    refine (m_idle ⟨b, 0, none⟩ ⟨b + 1, 0, none⟩ ⟨b + 2, 0, none⟩ ⟨b + 3, 0, none⟩ _).mono ?_
    rintro e u' w'' ⟨rfl, rfl, rfl⟩
    have HB4 := Lib.hid hb4
    clear hb4
    revert d0 d1 d2 d3 HB4
    generalize (((w3.setCell ⟨b, 0, none⟩ (.int .i64 0)).setCell ⟨b + 1, 0, none⟩ (.int .i64 0)).setCell ⟨b + 2, 0, none⟩ (.slice none 0 0)).setCell ⟨b + 3, 0, none⟩ (.int .i64 1) = w9
    intro d0 d1 d2 d3 HB4
    simp [Leaves, settle, results, Tryd.results8, go_sem, d0, d1, d2, d3]
    exact .inr ⟨HNO.out, rfl, HB4.out⟩
end Go.Proofs.YtjifoimkjgepcaaDoor.Tx
