/-
  The walks of laws.table and laws.FnMatrixRest.
-/
import Derived.Test.YtjifoimkjgepcaaDoorQe
set_option linter.unusedVariables false
set_option linter.unusedSimpArgs false
namespace Go.Proofs.YtjifoimkjgepcaaDoor.Tx
open Go.RowKit Go.Proofs.YtjifoimkjgepcaaDoor.K Go.Proofs.YtjifoimkjgepcaaDoorW.PrintWords

/-- A matrix: rows and columns from 1 to 20, and all costs, of 16 bits. -/
def TableOk (rows cols : Int) (cs : List Int) : Prop := (1 ≤ rows ∧ rows ≤ 20) ∧ (1 ≤ cols ∧ cols ≤ 20) ∧ (cs.length : Int) = rows * cols ∧ ∀ c ∈ cs, -32768 ≤ c ∧ c ≤ 32767
/-- A bool is returned; where it is true it is a matrix. -/
def TblRet (rows cols : Int) (cs : List Int) (w : World) (e : Ending) (w' : World) : Prop := ∃ b : Bool, e = .returned (.bool b) ∧ (b = true → TableOk rows cols cs) ∧ Below w.heap.size w w'
theorem ints_at' {w : World} {A : Option Addr} {n : Nat} {xs : List Int} (h : (Kd.int .i64).C w A n xs) : ∀ j (hj : j < xs.length), ∃ ad, A = some ad ∧ w.cell? (ad.add j) = some (.int .i64 xs[j]) := atSameInt h
set_option maxHeartbeats 1000000 in
set_option maxRecDepth 5000 in
theorem table_any (A : Option Addr) (cp : Nat) (rows cols : Int) (cs : List Int) (w : World) (hC : (Kd.int .i64).C w A cs.length cs) :
    Calls Tryd.prog 11 #[.int .i64 rows, .int .i64 cols, .slice A cs.length cp] w (TblRet rows cols cs w) := by
  have hm := hC.2.1
  have HC := Lib.hid hC
  clear hC
  go_enter Tryd.func11, Tryd.ntmps11
  go_upto_region 2 with fail
  go_loopw [8, 11] (fun _ jv wr => ∃ k : Nat, k ≤ cs.length ∧ jv = .int .i64 k ∧ Hid (∀ c ∈ cs.take k, -32768 ≤ c ∧ c ≤ 32767) ∧ Hid (Below w.heap.size w wr)) (fun _ jv _ => cs.length - (intOf jv).toNat)
  case atStart => exact ⟨0, Nat.zero_le _, rfl, Lib.hid (by simp), Lib.hid (Below.refl _ _)⟩
  case round =>
    obtain ⟨k, hk, rfl, HA, HB⟩ := hrel
    by_cases hlt : k < cs.length
    · obtain ⟨ad, rfl, hx⟩ := ints_at' (Kd.C_below HC.out HB.out) k hlt
      have HTK : Hid (cs.take (k + 1) = cs.take k ++ [cs[k]]) := Lib.hid (List.take_succ_eq_append_getElem hlt)
      generalize cs[k] = c at hx HTK
      by_cases h1 : c < -32768
      · have hd1 : decide (c < -32768) = true := decide_eq_true h1
        go_wp2_with fail
        go_ret
        exact ⟨false, rfl, by simp, HB.out⟩
      · have hd1 : decide (c < -32768) = false := decide_eq_false h1
        by_cases h2 : 32767 < c
        · have hd2 : decide (32767 < c) = true := decide_eq_true h2
          go_wp2_with fail
          go_ret
          exact ⟨false, rfl, by simp, HB.out⟩
        · have hd2 : decide (32767 < c) = false := decide_eq_false h2
          have HA2 : Hid (∀ c ∈ cs.take (k + 1), -32768 ≤ c ∧ c ≤ 32767) := Lib.hid (by
            rw [HTK.out]
            intro y hy
            rcases List.mem_append.1 hy with hy | hy
            · exact HA.out y hy
            · rw [List.mem_singleton.1 hy]; omega)
          go_wp2_with fail
          exact ⟨⟨k + 1, by omega, by go_num, HA2, HB⟩, by simp [intOf]; omega⟩
    · obtain rfl : k = cs.length := by omega
      have ha := HA.out
      rw [List.take_length] at ha
      have HA2 := Lib.hid ha
      clear ha
      by_cases h1 : 1 ≤ rows
      · have hd1 : decide (1 ≤ rows) = true := decide_eq_true h1
        by_cases h2 : rows ≤ 20
        · have hd2 : decide (rows ≤ 20) = true := decide_eq_true h2
          by_cases h3 : 1 ≤ cols
          · have hd3 : decide (1 ≤ cols) = true := decide_eq_true h3
            by_cases h4 : cols ≤ 20
            · have hd4 : decide (cols ≤ 20) = true := decide_eq_true h4
              have hp1 : rows * cols ≤ 400 := Int.le_trans (Int.mul_le_mul_of_nonneg_left h4 (by omega)) (Int.le_trans (Int.mul_le_mul_of_nonneg_right h2 (by decide)) (by decide))
              have hp0 : 0 ≤ rows * cols := Int.mul_nonneg (by omega) (by omega)
              go_wp2_with fail
              go_ret
              refine ⟨_, rfl, fun hb => ⟨⟨h1, h2⟩, ⟨h3, h4⟩, ?_, HA2.out⟩, HB.out⟩
              simpa using hb
            · have hd4 : decide (cols ≤ 20) = false := decide_eq_false h4
              go_wp2_with fail
              go_ret
              exact ⟨false, rfl, by simp, HB.out⟩
          · have hd3 : decide (1 ≤ cols) = false := decide_eq_false h3
            go_wp2_with fail
            go_ret
            exact ⟨false, rfl, by simp, HB.out⟩
        · have hd2 : decide (rows ≤ 20) = false := decide_eq_false h2
          go_wp2_with fail
          go_ret
          exact ⟨false, rfl, by simp, HB.out⟩
      · have hd1 : decide (1 ≤ rows) = false := decide_eq_false h1
        go_wp2_with fail
        go_ret
        exact ⟨false, rfl, by simp, HB.out⟩

def wantA (N : Nat) (f : Nat → Int) : Array Value := Array.ofFn (n := N) fun i => .int .i64 (f i.1)
theorem want_zero (N : Nat) : madeCells #[.int .i64 0] N = wantA N fun _ => 0 := by
  apply Array.ext
  · simp [wantA, size_madeCells]
  · intro j h1 h2
    simp [madeCells, wantA, Nat.mod_one]
theorem want_at {N i : Nat} {f : Nat → Int} (h : i < N) : (wantA N f)[i]? = some (.int .i64 (f i)) := by
  unfold wantA
  rw [Array.getElem?_ofFn, dif_pos h]
theorem want_set {N i : Nat} {f : Nat → Int} (h : i < N) (v : Int) : (wantA N f).setIfInBounds i (.int .i64 v) = wantA N (updV f i v) := by
  apply Array.ext
  · simp [wantA]
  · intro j h1 h2
    have h3 : j < N := by simpa [wantA] using h2
    rw [Array.getElem_setIfInBounds (by simpa [wantA] using h3)]
    simp only [wantA, Array.getElem_ofFn, updV]
    by_cases e : i = j
    · subst e; simp
    · rw [if_neg e, if_neg (fun h => e h.symm)]
theorem want_list (N : Nat) (f : Nat → Int) : (wantA N f).toList = (costsL N f).map (Value.int .i64) := by
  apply List.ext_getElem
  · simp [wantA, costsL]
  · intro i h1 h2
    simp [wantA, costsL]
/-- What the law has gathered after k costs. -/
structure Gath (R C k : Nat) (es : List Ent) : Prop where
  ok : ∀ x ∈ es, EntOk x
  inn : ∀ x ∈ es, x.1 < R ∧ x.2.1 < C
  len : es.length ≤ k
  zero : ∀ i, k ≤ i → vecOf R es i = 0
theorem Gath.start (R C : Nat) : Gath R C 0 [] := ⟨by simp, by simp, Nat.le_refl _, fun _ _ => rfl⟩
theorem Gath.skip {R C k : Nat} {es : List Ent} (h : Gath R C k es) : Gath R C (k + 1) es := ⟨h.ok, h.inn, by have := h.len; omega, fun i hi => h.zero i (by omega)⟩
theorem Gath.more {R C k : Nat} {es : List Ent} (h : Gath R C k es) (hR : 1 ≤ R) (hRb : R ≤ 20) (hC : C ≤ 20) (hk : k < R * C) {c : Int} (hc : -32768 ≤ c ∧ c ≤ 32767) :
    Gath R C (k + 1) (es ++ [((k : Int) % (R : Int), (k : Int) / (R : Int), c)]) ∧ vecOf R (es ++ [((k : Int) % (R : Int), (k : Int) / (R : Int), c)]) = updV (vecOf R es) k c := by
  have e1 : (k : Int) % (R : Int) = ((k % R : Nat) : Int) := by simp
  have e2 : (k : Int) / (R : Int) = ((k / R : Nat) : Int) := by simp
  have m1 : k % R < R := Nat.mod_lt _ (by omega)
  have m2 : k / R < C := Nat.div_lt_of_lt_mul hk
  have e3 : ((k : Int) / (R : Int) * (R : Int) + (k : Int) % (R : Int)).toNat = k := by
    have := Int.ediv_mul_add_emod (k : Int) (R : Int)
    rw [this]
    simp
  have ev : vecOf R (es ++ [((k : Int) % (R : Int), (k : Int) / (R : Int), c)]) = updV (vecOf R es) k c := by
    rw [vecOf_snoc]
    simp only
    rw [e3]
  have q1 : 0 ≤ (k : Int) % (R : Int) ∧ (k : Int) % (R : Int) < R := by rw [e1]; exact ⟨Int.natCast_nonneg _, Int.ofNat_lt.2 m1⟩
  have q2 : 0 ≤ (k : Int) / (R : Int) ∧ (k : Int) / (R : Int) < C := by rw [e2]; exact ⟨Int.natCast_nonneg _, Int.ofNat_lt.2 m2⟩
  refine ⟨⟨fun x hx => ?_, fun x hx => ?_, by have := h.len; simp; omega, fun i hi => ?_⟩, ev⟩
  · rcases List.mem_append.1 hx with hx | hx
    · exact h.ok x hx
    · rw [List.mem_singleton.1 hx]
      exact ⟨⟨by simp only; omega, by simp only; omega⟩, ⟨by simp only; omega, by simp only; omega⟩, hc⟩
  · rcases List.mem_append.1 hx with hx | hx
    · exact h.inn x hx
    · rw [List.mem_singleton.1 hx]
      exact ⟨by simp only; omega, by simp only; omega⟩
  · rw [ev]
    unfold updV
    rw [if_neg (by omega)]
    exact h.zero i (by omega)
theorem mtx_snoc (R C : Int) (es : List Ent) (x : Ent) : ofL (mtx R C es) ++ ofL (lineL x ++ [10]) = ofL (mtx R C (es ++ [x])) := by
  rw [ofL_app]
  congr 1
  simp [mtx, entsL]
theorem mtx_size {R C : Nat} {es : List Ent} (hR : R ≤ 20) (hC : C ≤ 20) (h : ∀ x ∈ es, EntOk x) (hl : es.length ≤ 400) : (ofL (mtx (R : Int) (C : Int) es)).size ≤ 10000 := by
  rw [ofL_size]
  have h1 := itoa_len (n := (R : Int)) (by omega) (by omega)
  have h2 := itoa_len (n := (C : Int)) (by omega) (by omega)
  have h3 := ents_len es h
  simp [mtx]
  omega
set_option maxHeartbeats 2000000 in
set_option maxRecDepth 5000 in
theorem matrixRest_walk (Ac : Option Addr) (cp : Nat) (rows cols bits : Int) (cs : List Int) (w : World) (hC : (Kd.int .i64).C w Ac cs.length cs) (hwb : (Lit.int .u64 bits).wf = true) :
    Calls Tryd.prog 4 #[.int .i64 rows, .int .i64 cols, .slice Ac cs.length cp, .int .u64 bits] w fun e w' => e = .returned (.bool true) ∧ Below w.heap.size w w' := by
  have HC := Lib.hid hC
  clear hC
  go_enter Tryd.func4, Tryd.ntmps4
  by_cases hbig : 2147483647 < (cs.length : Int)
  · go_wp2
    go_ret
    exact ⟨rfl, Below.refl _ _⟩
  go_wp2_with fail
  refine (table_any Ac cp rows cols cs w HC.out).mono ?_
  rintro e w1 ⟨b0, rfl, hok, hb1⟩
  have HB1 := Lib.hid hb1
  have HOK := Lib.hid hok
  clear hok hb1
  cases b0
  · go_wp2_with fail
    refine (reads_any w1).mono ?_
    rintro e wf ⟨rfl, hwf⟩
    have HLf := Lib.hid (HB1.out.trans (hwf.mono HB1.out.size))
    clear hwf
    go_wp2_with fail
    go_ret
    exact ⟨rfl, HLf.out⟩
  obtain ⟨⟨hr1, hr2⟩, ⟨hc1, hc2⟩, hlen, hcs⟩ := HOK.out (by trivial)
  obtain ⟨R, rfl⟩ := Int.eq_ofNat_of_zero_le (show 0 ≤ rows by omega)
  obtain ⟨C, rfl⟩ := Int.eq_ofNat_of_zero_le (show 0 ≤ cols by omega)
  have hR : 1 ≤ R ∧ R ≤ 20 := by omega
  have hCC : 1 ≤ C ∧ C ≤ 20 := by omega
  have hlenN : cs.length = R * C := by
    have : ((R * C : Nat) : Int) = (R : Int) * (C : Int) := by simp
    omega
  have hRC : R * C ≤ 400 := Nat.mul_le_mul hR.2 hCC.2
  have hl4 : cs.length ≤ 400 := by omega
  have HCS := Lib.hid hcs
  have HLN := Lib.hid hlenN
  have I1 := Lib.hid (digits_any w1 (R : Int) (by omega) (by omega))
  have I2 := Lib.hid (digits_any w1 (C : Int) (by omega) (by omega))
  obtain ⟨A, hA⟩ : ∃ A, A = ofL (Lib.itoa (R : Int)) := ⟨_, rfl⟩
  obtain ⟨B, hB⟩ : ∃ B, B = ofL (Lib.itoa (C : Int)) := ⟨_, rfl⟩
  have zA : A.size ≤ 8 := by rw [hA, ofL_size]; exact itoa_len7 (by omega) (by omega)
  have zB : B.size ≤ 8 := by rw [hB, ofL_size]; exact itoa_len7 (by omega) (by omega)
  have z1 : (A ++ (⟨#[32]⟩ : ByteArray)).size = A.size + 1 := ByteArray.size_append
  have z2 : (A ++ (⟨#[32]⟩ : ByteArray) ++ B).size = A.size + 1 + B.size := by rw [ByteArray.size_append, z1]
  have HE : Hid (A ++ (⟨#[32]⟩ : ByteArray) ++ B ++ (⟨#[10]⟩ : ByteArray) = ofL (mtx (R : Int) (C : Int) [])) := Lib.hid (by
    have e : mtx (R : Int) (C : Int) [] = (((Lib.itoa (R : Int) ++ [32]) ++ Lib.itoa (C : Int)) ++ [10]) := by simp [mtx, entsL]
    rw [e, ← ofL_app ((Lib.itoa (R : Int) ++ [32]) ++ Lib.itoa (C : Int)), ← ofL_app (Lib.itoa (R : Int) ++ [32]), ← ofL_app (Lib.itoa (R : Int)), hA, hB]
    rfl)
  rw [← hA] at I1
  rw [← hB] at I2
  clear hA hB hlen hcs hlenN hr1 hr2 hc1 hc2
  go_wp2_with fail
  refine I1.out.mono ?_
  rintro e w2 ⟨rfl, rfl⟩
  go_wp2_with fail
  refine I2.out.mono ?_
  rintro e w2 ⟨rfl, rfl⟩
  have hmk : ∀ W : World, (Instr.makeSlice 23 (.int .i64 (cs.length : Int)) (.int .i64 (cs.length : Int))).run Tryd.prog W = .ok (.slice (some ⟨W.heap.size, 0, none⟩) cs.length cs.length) (W.alloc (.cells (wantA cs.length fun _ => 0) tInt)) := fun W => by
    rw [← want_zero]
    exact run_make_row' (P := Tryd.prog) 23 3 (.int .i64 0) 8 Tryd.underlying23 (by kernel_rfl) rfl .i64 .i64 cs.length (by omega) (by omega) W
  go_upto_region 8 with fail
  rw [HE.out]
  obtain ⟨wb, hwb'⟩ : ∃ wb, wb = w2.heap.size := ⟨_, rfl⟩
  obtain ⟨w3, hw3⟩ : ∃ w3, w3 = w2.alloc (.cells (wantA cs.length fun _ => 0) tInt) := ⟨_, rfl⟩
  have HW3 : Hid (w3.heap[wb]? = some (.cells (wantA cs.length (vecOf R [])) tInt (0, 0))) := Lib.hid (by rw [hw3, hwb']; exact heap_new _ _)
  have HB3 : Hid (Below w2.heap.size w2 w3) := Lib.hid (by rw [hw3]; exact (Below.refl _ _).alloc (Nat.le_refl _) _)
  have HWB : Hid (w2.heap.size ≤ wb) := Lib.hid (by rw [hwb']; exact Nat.le_refl _)
  rw [← hw3, ← hwb']
  clear hw3 hwb' hmk zA zB z1 z2 HE
  go_loopw [9, 11, 12, 38] (fun sv _ _ jv wr => ∃ (k : Nat) (es : List Ent), k ≤ cs.length ∧ jv = .int .i64 k ∧ sv = .string (ofL (mtx (R : Int) (C : Int) es)) ∧ Hid (Gath R C k es) ∧ Hid (wr.heap[wb]? = some (.cells (wantA cs.length (vecOf R es)) tInt (0, 0))) ∧ Hid (Below w2.heap.size w2 wr)) (fun _ _ _ jv _ => cs.length - (intOf jv).toNat)
  case atStart => exact ⟨0, [], Nat.zero_le _, rfl, rfl, Lib.hid (Gath.start R C), HW3, HB3⟩
  case round =>
    clear HW3 HB3
    obtain ⟨k, es, hk, rfl, rfl, HG, HW, HB⟩ := hrel
    by_cases hlt : k < cs.length
    · obtain ⟨ad, rfl, hx⟩ := ints_at' (Kd.C_below HC.out (HB1.out.trans (HB.out.mono HB1.out.size))) k hlt
      have hcb := HCS.out _ (List.getElem_mem hlt)
      generalize cs[k] = c at hx hcb
      have hli : (k : Int) < (cs.length : Int) := by omega
      go_upto_region 10 with fail
      obtain ⟨HG2, hv2⟩ := HG.out.more hR.1 hR.2 hCC.2 (by have := HLN.out; omega) hcb
      have HG2' := Lib.hid HG2
      have HV2 := Lib.hid hv2
      have hkR : 0 ≤ (k : Int) % (R : Int) ∧ (k : Int) % (R : Int) ≤ 1000 := by have := HG2.ok _ (List.mem_append_right _ (List.mem_singleton.2 rfl)); exact this.1
      have hkC : 0 ≤ (k : Int) / (R : Int) ∧ (k : Int) / (R : Int) ≤ 1000 := by have := HG2.ok _ (List.mem_append_right _ (List.mem_singleton.2 rfl)); exact this.2.1
      have zd : (lineL ((k : Int) % (R : Int), (k : Int) / (R : Int), c)).length ≤ 20 := line_len (HG2.ok _ (List.mem_append_right _ (List.mem_singleton.2 rfl)))
      have zS := mtx_size hR.2 hCC.2 HG.out.ok (by have := HG.out.len; omega)
      have HSN := Lib.hid (mtx_snoc (R : Int) (C : Int) es ((k : Int) % (R : Int), (k : Int) / (R : Int), c))
      obtain ⟨S, hS⟩ : ∃ S, S = ofL (mtx (R : Int) (C : Int) es) := ⟨_, rfl⟩
      obtain ⟨D, hD⟩ : ∃ D, D = ofL (lineL ((k : Int) % (R : Int), (k : Int) / (R : Int), c) ++ [10]) := ⟨_, rfl⟩
      have zD : D.size ≤ 30 := by rw [hD, ofL_size, List.length_append]; simp; omega
      have HCE := Lib.hid (fun W => cell_any W ((k : Int) % (R : Int)) ((k : Int) / (R : Int)) c (by omega) (by omega) (by omega))
      rw [← hD] at HCE HSN
      rw [← hS] at HSN zS ⊢
      have hR0 : R ≠ 0 := by omega
      have hR0i : (R : Int) ≠ 0 := by omega
      have htd : Int.tdiv (k : Int) (R : Int) = (k : Int) / (R : Int) := Int.tdiv_eq_ediv_of_nonneg (by omega)
      have htm : Int.tmod (k : Int) (R : Int) = (k : Int) % (R : Int) := Int.tmod_eq_emod_of_nonneg (by omega)
      have hwq : IntKind.i64.wrap ((k : Int) / (R : Int)) = (k : Int) / (R : Int) := IntWalk.i64_in _ (by omega)
      have HSE := Lib.hid hS
      clear hS hD HG2 hv2 zd hcb
      go_upto_if 11 with fail
      · go_quiet ((go_at_call 10; exact Calls.quiet_of_same (HCE.out _)))
        have HBd : Hid (Below w2.heap.size w2 (wr.drewN nq)) := Lib.hid (pw_below_drewN HB.out nq)
        have HWd : Hid ((wr.drewN nq).heap[wb]? = some (.cells (wantA cs.length (vecOf R es)) tInt (0, 0))) := Lib.hid HW.out
        generalize wr.drewN nq = wd at HBd HWd ⊢
        have hfz : wd.frozen? ⟨wb, k, none⟩ = false := frozen_of_heap HWd.out k
        have hcl : wd.cell? ⟨wb, k, none⟩ = some (.int .i64 (vecOf R es k)) := by rw [cell_of_heap HWd.out]; exact want_at hlt
        have HW2 : Hid ((wd.setCell ⟨wb, k, none⟩ (.int .i64 c)).heap[wb]? = some (.cells (wantA cs.length (vecOf R (es ++ [((k : Int) % (R : Int), (k : Int) / (R : Int), c)]))) tInt (0, 0))) := Lib.hid (by rw [heap_set HWd.out, want_set hlt, HV2.out])
        have HB2 : Hid (Below w2.heap.size w2 (wd.setCell ⟨wb, k, none⟩ (.int .i64 c))) := Lib.hid (HBd.out.setCell (p := ⟨wb, k, none⟩) HWB.out _)
        clear htd htm hwq hkR hkC hx
        go_wp2_with fail
        exact ⟨⟨k + 1, _, by omega, by go_num, by rw [HSN.out], HG2', HW2, HB2⟩, by simp [intOf]; omega⟩
      · exact ⟨⟨k + 1, es, by omega, by go_num, by rw [HSE.out], Lib.hid HG.out.skip, HW, HB⟩, by simp [intOf]; omega⟩
    · obtain rfl : k = cs.length := by omega
      have HM := Lib.hid (matrix_any R C es wr hR hCC HG.out.ok (by have := HG.out.len; omega))
      have HBz := Lib.hid (HB1.out.trans (HB.out.mono HB1.out.size))
      go_wp2_with fail
      refine HM.out.mono ?_
      rintro e w5 (⟨-, v, rfl, ho, hb⟩ | ⟨⟨x, hx, hn⟩, -⟩)
      · have hll : (costsL (R * C) (vecOf R es)).length = cs.length := by rw [HLN.out]; simp [costsL]
        obtain ⟨A5, c5, rfl, hC5⟩ := ho.reads hll
        have hw5 := (hb.block wb (lt_of_heap HW.out)).trans HW.out
        have hlw : (costsL cs.length (vecOf R es)).length = cs.length := by simp [costsL]
        have hD5 : (Kd.int .i64).C w5 (some ⟨wb, 0, none⟩) cs.length (costsL cs.length (vecOf R es)) := by
          have := C_of_arr hw5 (by rw [want_list]; exact reps_ints w5 .i64 (costsL cs.length (vecOf R es))) (by rw [hlw]; omega)
          rw [hlw] at this
          exact this
        have HB5 := Lib.hid (HBz.out.trans (hb.mono HBz.out.size))
        have HSI := Lib.hid (sameInt_any A5 (some ⟨wb, 0, none⟩) c5 cs.length (costsL (R * C) (vecOf R es)) (costsL cs.length (vecOf R es)) w5 (by rw [hll]; exact hC5) (by rw [hlw]; exact hD5))
        rw [hll, hlw, decide_eq_true (by rw [HLN.out])] at HSI
        clear ho hb hC5 hw5 hD5 hll hlw HM
        go_wp2_with fail
        refine HSI.out.mono ?_
        rintro e w6 ⟨rfl, hb6⟩
        have HB6 := Lib.hid (HB5.out.trans (hb6.mono HB5.out.size))
        clear hb6
        go_wp2_with fail
        refine (reads_any w6).mono ?_
        rintro e wf ⟨rfl, hwf⟩
        have HLf := Lib.hid (HB6.out.trans (hwf.mono HB6.out.size))
        clear hwf
        go_wp2_with fail
        go_ret
        exact ⟨by simp, HLf.out⟩
      · exact absurd (HG.out.inn x hx) hn
end Go.Proofs.YtjifoimkjgepcaaDoor.Tx
