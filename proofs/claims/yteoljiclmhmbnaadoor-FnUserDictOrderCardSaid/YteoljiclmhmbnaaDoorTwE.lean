/-
  Guarded operations of a region that are passed by, many at once.
-/
import Derived.OrdersHeld
import Derived.Deep.RegionHeld
import Derived.KernelRfl
import Derived.Test.YteoljiclmhmbnaaDoorTwD
import Derived.Test.YteoljiclmhmbnaaDoorWEqStruct
import Derived.Outline
import Derived.Deep.QuietTactic
import Derived.BigQuiet
import Derived.Laws.StructEq
import Derived.Test.YteoljiclmhmbnaaDoorTwA
import Derived.Test.YteoljiclmhmbnaaDoorRows
import Derived.Maps.OwnOps
import Derived.Maps.OwnSet
import Derived.Maps.Views
set_option linter.unusedVariables false
namespace Go.Proofs.YteoljiclmhmbnaaDoor.Gd
open Go

section
variable {P : Program} {ops : Array Oper} {Q : Exit → Act → World → Prop} {md : Region.Mode} {S : World → Prop}

theorem hQ_put (hQ : ∀ c (a : Act) w (t : Array Value), Q (.panic c) { a with tmps := t } w → Q (.panic c) a w) (c : List PanicEntry) (a : Act) (w : World) (d : Option Tmp) (v : Value) (h : Q (.panic c) (a.put d v) w) : Q (.panic c) a w := by
  cases d with
  | none => exact h
  | some d => exact hQ c a w _ h

theorem take (i : Nat) {oi : Oper} {v : Value} {fuel : Nat} {listed : Array Bool} {a : Act} {w : World} (hi : ops[i]? = some oi)
    (hs : Region.noSelect ops = true) (hf : Region.free md ops listed i = true) (hr : (Region.ready md ops listed).contains i = true)
    (hQ : ∀ c (a : Act) w (t : Array Value), Q (.panic c) { a with tmps := t } w → Q (.panic c) a w) (hy : YieldsIf P ops S oi v a) (hS : S w)
    (h : wpAnyH P md ops Q S fuel (listed.setIfInBounds i true) (a.put oi.dst v) w) : wpAnyH P md ops Q S (fuel + 1) listed a w :=
  wpAnyH_take hi hs hf hr (fun c a w h => hQ_put hQ c a w _ _ h) hy hS h

def skipsOk (md : Region.Mode) (ops : Array Oper) : List Nat → Array Bool → Act → Bool
  | [], _, _ => true
  | i :: is, listed, a =>
    match ops[i]? with
    | none => false
    | some o => Region.free md ops listed i && ((Region.ready md ops listed).contains i && (!(Region.wanted o (yielded ops a.tmps)) && skipsOk md ops is (listed.setIfInBounds i true) (a.put o.dst undef)))

theorem skips (hs : Region.noSelect ops = true) (hQ : ∀ c (a : Act) w (t : Array Value), Q (.panic c) { a with tmps := t } w → Q (.panic c) a w) {w : World} (hS : S w) :
    ∀ (is : List Nat) (ds : List (Option Tmp)) (listed : Array Bool) (a : Act) (fuel : Nat), is.map (fun i => (ops[i]?).bind (·.dst)) = ds → skipsOk md ops is listed a = true →
      wpAnyH P md ops Q S fuel (is.foldl (fun l i => l.setIfInBounds i true) listed) (ds.foldl (fun a d => a.put d undef) a) w → wpAnyH P md ops Q S (fuel + is.length) listed a w
  | [], ds, listed, a, fuel, hd, hok, h => by
    subst hd
    exact h
  | i :: is, ds, listed, a, fuel, hd, hok, h => by
    subst hd
    unfold skipsOk at hok
    cases ho : ops[i]? with
    | none => rw [ho] at hok; cases hok
    | some o =>
      rw [ho] at hok
      simp only [Bool.and_eq_true, Bool.not_eq_true'] at hok
      obtain ⟨h1, h2, h3, h4⟩ := hok
      rw [List.length_cons, ← Nat.add_assoc]
      refine wpAnyH_take ho hs h1 h2 (fun c a w h => hQ_put hQ c a w _ _ h) (.inr ⟨h3, rfl⟩) hS ?_
      refine skips hs hQ hS is _ _ _ fuel rfl h4 ?_
      simpa [ho] using h

theorem skips_done (is : List Nat) (ds : List (Option Tmp)) {listed : Array Bool} {a : Act} {w : World} {fuel : Nat} (hs : Region.noSelect ops = true) (hd : is.map (fun i => (ops[i]?).bind (·.dst)) = ds) (hok : skipsOk md ops is listed a = true)
    (hr : Region.ready md ops (is.foldl (fun l i => l.setIfInBounds i true) listed) = []) (hf : fuel - is.length + is.length = fuel) (hQ : ∀ c (a : Act) w (t : Array Value), Q (.panic c) { a with tmps := t } w → Q (.panic c) a w) (hS : S w)
    (h : Q .normal (ds.foldl (fun a d => a.put d undef) a) w) : wpAnyH P md ops Q S fuel listed a w := by
  rw [← hf]
  exact skips hs hQ hS is ds listed a _ hd hok (wpAnyH_done hr h _)

/-! ### Those passed by, and the picks and moves of truth values between them -/
def isB (v : Value) (b : Bool) : Bool := match v with | .bool b' => b' == b | _ => false
theorem isB_eq {v : Value} {b : Bool} (h : isB v b = true) : v = .bool b := by
  unfold isB at h
  split at h
  · rw [beq_iff_eq.1 h]
  · cases h
def valB : Option Bool → Value | none => undef | some b => .bool b
def passStep (ops : Array Oper) (o : Oper) (a : Act) : Option Bool → Bool
  | none => !(Region.wanted o (yielded ops a.tmps))
  | some b => Region.wanted o (yielded ops a.tmps) && (match o.op with
    | .move x => isB (a.eval x) b
    | .pick c x y => match a.eval c with | .bool t => isB (cond t (a.eval x) (a.eval y)) b | _ => false
    | _ => false)
theorem passStep_yields {o : Oper} {a : Act} {ob : Option Bool} (h : passStep ops o a ob = true) : YieldsIf P ops S o (valB ob) a := by
  cases ob with
  | none => exact .inr ⟨by simpa [passStep] using h, rfl⟩
  | some b =>
    simp only [passStep, Bool.and_eq_true] at h
    obtain ⟨h1, h2⟩ := h
    refine .inl ⟨h1, fun w _ => ?_⟩
    unfold execOp
    cases hop : o.op with
    | move x =>
      rw [hop] at h2
      simp only at h2 ⊢
      rw [isB_eq h2]
      rfl
    | pick c x y =>
      rw [hop] at h2
      simp only at h2 ⊢
      cases hc : a.eval c with
      | bool t =>
        rw [hc] at h2
        simp only at h2
        have h3 := isB_eq h2
        cases t <;> simp only [cond_true, cond_false] at h3 <;> simp only [asBool, h3, valB] <;> rfl
      | _ => rw [hc] at h2; simp at h2
    | _ => rw [hop] at h2; simp at h2
def passOk (md : Region.Mode) (ops : Array Oper) : List (Nat × Option Bool) → Array Bool → Act → Bool
  | [], _, _ => true
  | (i, ob) :: is, listed, a =>
    match ops[i]? with
    | none => false
    | some o => Region.free md ops listed i && ((Region.ready md ops listed).contains i && (passStep ops o a ob && passOk md ops is (listed.setIfInBounds i true) (a.put o.dst (valB ob))))

theorem passes (hs : Region.noSelect ops = true) (hQ : ∀ c (a : Act) w (t : Array Value), Q (.panic c) { a with tmps := t } w → Q (.panic c) a w) {w : World} (hS : S w) :
    ∀ (is : List (Nat × Option Bool)) (ds : List (Option Tmp × Value)) (listed : Array Bool) (a : Act) (fuel : Nat), is.map (fun x => ((ops[x.1]?).bind (·.dst), valB x.2)) = ds → passOk md ops is listed a = true →
      wpAnyH P md ops Q S fuel (is.foldl (fun l x => l.setIfInBounds x.1 true) listed) (ds.foldl (fun a x => a.put x.1 x.2) a) w → wpAnyH P md ops Q S (fuel + is.length) listed a w
  | [], ds, listed, a, fuel, hd, hok, h => by
    subst hd
    exact h
  | (i, ob) :: is, ds, listed, a, fuel, hd, hok, h => by
    subst hd
    unfold passOk at hok
    cases ho : ops[i]? with
    | none => rw [ho] at hok; cases hok
    | some o =>
      rw [ho] at hok
      simp only [Bool.and_eq_true] at hok
      obtain ⟨h1, h2, h3, h4⟩ := hok
      rw [List.length_cons, ← Nat.add_assoc]
      refine wpAnyH_take ho hs h1 h2 (fun c a w h => hQ_put hQ c a w _ _ h) (passStep_yields h3) hS ?_
      refine passes hs hQ hS is _ _ _ fuel rfl h4 ?_
      simpa [ho] using h

theorem passes_done (is : List (Nat × Option Bool)) (ds : List (Option Tmp × Value)) {listed : Array Bool} {a : Act} {w : World} {fuel : Nat} (hs : Region.noSelect ops = true) (hd : is.map (fun x => ((ops[x.1]?).bind (·.dst), valB x.2)) = ds) (hok : passOk md ops is listed a = true)
    (hr : Region.ready md ops (is.foldl (fun l x => l.setIfInBounds x.1 true) listed) = []) (hf : fuel - is.length + is.length = fuel) (hQ : ∀ c (a : Act) w (t : Array Value), Q (.panic c) { a with tmps := t } w → Q (.panic c) a w) (hS : S w)
    (h : Q .normal (ds.foldl (fun a x => a.put x.1 x.2) a) w) : wpAnyH P md ops Q S fuel listed a w := by
  rw [← hf]
  exact passes hs hQ hS is ds listed a _ hd hok (wpAnyH_done hr h _)

/-! ### A region walked in the order of its text: that this is one of its orders is reckoned once -/
def upto (n i : Nat) : Array Bool := ((List.range n).map (fun j => decide (j < i))).toArray
theorem upto_zero (n : Nat) : Array.replicate n false = upto n 0 := by
  apply Array.ext'
  simp only [upto, Array.toList_replicate]
  refine List.ext_getElem (by simp) ?_
  intro i h1 h2
  simp
theorem upto_set (n i : Nat) : (upto n i).setIfInBounds i true = upto n (i + 1) := by
  apply Array.ext
  · simp [upto]
  · intro j h1 h2
    simp only [upto, List.size_toArray, List.length_map, List.length_range] at h2
    by_cases hji : i = j
    · subst hji
      simp [upto]
    · rw [Array.getElem_setIfInBounds_ne (by simpa [upto] using h2) hji]
      simp only [upto, List.getElem_toArray, List.getElem_map, List.getElem_range]
      congr 1
      apply propext
      omega
theorem ready_end (md : Region.Mode) (ops : Array Oper) {i : Nat} (h : ops.size ≤ i) : Region.ready md ops (upto ops.size i) = [] := by
  rw [Region.ready, List.filter_eq_nil_iff]
  intro j hj
  rw [List.mem_range] at hj
  simp [upto, Array.getD, hj, Nat.lt_of_lt_of_le hj h]
def ordT (ops : Array Oper) : Bool := (List.range ops.size).all fun i =>
  (Region.ready .any ops (upto ops.size i) == [i]) || ((Region.ready .any ops (upto ops.size i)).contains i && Region.free .any ops (upto ops.size i) i)
theorem ordT_at (h : ordT ops = true) {i : Nat} (hi : i < ops.size) : Region.ready .any ops (upto ops.size i) = [i] ∨ ((Region.ready .any ops (upto ops.size i)).contains i = true ∧ Region.free .any ops (upto ops.size i) i = true) := by
  unfold ordT at h
  rw [List.all_eq_true] at h
  have := h i (List.mem_range.2 hi)
  simp only [Bool.or_eq_true, Bool.and_eq_true, beq_iff_eq] at this
  exact this

def WT (P : Program) (ops : Array Oper) (Q : Exit → Act → World → Prop) (S : World → Prop) (i : Nat) (a : Act) (w : World) : Prop :=
  ordT ops = true → Region.noSelect ops = true → (∀ c (a : Act) w (t : Array Value), Q (.panic c) { a with tmps := t } w → Q (.panic c) a w) → wpAnyH P .any ops Q S (ops.size - i) (upto ops.size i) a w

theorem WT_start {id : Nat} {a : Act} {w : World} (hm : P.follows .mixedOrders = true) (hord : ordT ops = true) (hs : Region.noSelect ops = true) (hQ : ∀ c (a : Act) w (t : Array Value), Q (.panic c) { a with tmps := t } w → Q (.panic c) a w)
    (h : ∃ S : World → Prop, S w.drew ∧ (S w.drew → WT P ops Q S 0 a w.drew)) : (Code.region id ops true).wp P Q a w := by
  obtain ⟨S, hS, h⟩ := h
  refine wp_region_held_drew hm hS fun hS => ?_
  have := h hS hord hs hQ
  rw [upto_zero]
  exact this
theorem WT_end {i : Nat} {a : Act} {w : World} (hi : ops.size ≤ i) (h : Q .normal a w) : WT P ops Q S i a w := fun _ _ _ => wpAnyH_done (ready_end _ _ hi) h _
theorem WT_take (i : Nat) {oi : Oper} {v : Value} {a : Act} {w : World} (hi : ops[i]? = some oi) (hy : YieldsIf P ops S oi v a) (hS : S w) (h : WT P ops Q S (i + 1) (a.put oi.dst v) w) : WT P ops Q S i a w := by
  intro hord hs hQ
  have hlt : i < ops.size := by
    rcases Nat.lt_or_ge i ops.size with h1 | h1
    · exact h1
    · rw [Array.getElem?_eq_none h1] at hi; cases hi
  have hrest := h hord hs hQ
  rw [← upto_set] at hrest
  rw [show ops.size - i = (ops.size - (i + 1)) + 1 by omega]
  rcases ordT_at hord hlt with h1 | ⟨h1, h2⟩
  · refine wpAnyH_all h1 (by simp) ?_
    intro j hj
    obtain rfl := List.mem_singleton.1 hj
    exact hy.wpOp hi hS ⟨hS, hrest⟩
  · exact wpAnyH_take hi hs h2 h1 (fun c a w h => hQ_put hQ c a w _ _ h) hy hS hrest
theorem WT_call (i : Nat) {o : Oper} {a : Act} {w : World} (hi : ops[i]? = some o) (hone : Region.ready .any ops (upto ops.size i) = [i])
    (h : ∀ K' : Act → World → Prop, Shut (∀ a w, S w → (S w → WT P ops Q S (i + 1) a w) → K' a w) → if Region.wanted o (yielded ops a.tmps) = true then Oper.wp P o a w K' Q else K' (a.put o.dst undef) w) : WT P ops Q S i a w := by
  intro hord hs hQ
  have hlt : i < ops.size := by
    rcases Nat.lt_or_ge i ops.size with h1 | h1
    · exact h1
    · rw [Array.getElem?_eq_none h1] at hi; cases hi
  rw [show ops.size - i = (ops.size - (i + 1)) + 1 by omega]
  refine wpAnyH_ready hone (by simp) (AllReadyH.cons hi (fun K' hK => h K' ?_) AllReadyH.nil)
  intro a w h1 h2
  refine hK.out a w h1 fun h3 => ?_
  rw [upto_set]
  exact h2 h3 hord hs hQ

def passT (ops : Array Oper) : Nat → List (Option Bool) → Act → Bool
  | _, [], _ => true
  | i, ob :: is, a =>
    match ops[i]? with
    | none => false
    | some o => passStep ops o a ob && passT ops (i + 1) is (a.put o.dst (valB ob))
def dstT (ops : Array Oper) : Nat → List (Option Bool) → List (Option Tmp × Value)
  | _, [] => []
  | i, ob :: is => ((ops[i]?).bind (·.dst), valB ob) :: dstT ops (i + 1) is
theorem WT_passes {w : World} (hS : S w) : ∀ (i : Nat) (is : List (Option Bool)) (ds : List (Option Tmp × Value)) (m : Nat) (a : Act), dstT ops i is = ds → passT ops i is a = true → i + is.length = m →
      WT P ops Q S m (ds.foldl (fun a x => a.put x.1 x.2) a) w → WT P ops Q S i a w
  | i, [], ds, m, a, hd, hok, hm, h => by
    subst hd
    rw [← hm] at h
    exact h
  | i, ob :: is, ds, m, a, hd, hok, hm, h => by
    subst hd
    unfold passT at hok
    cases ho : ops[i]? with
    | none => rw [ho] at hok; cases hok
    | some o =>
      rw [ho] at hok
      simp only [Bool.and_eq_true] at hok
      refine WT_take i ho (passStep_yields hok.1) hS ?_
      refine WT_passes hS (i + 1) is _ m _ rfl hok.2 (by rw [← hm, List.length_cons]; omega) ?_
      simpa [dstT, ho] using h
end
end Go.Proofs.YteoljiclmhmbnaaDoor.Gd

/-
  The walk of laws.ordered.
-/
set_option linter.unusedVariables false
set_option linter.unusedSimpArgs false
namespace Go.Proofs.YteoljiclmhmbnaaDoor.Da
open Go.RowKit Go.Proofs.YteoljiclmhmbnaaDoor.K Go.Proofs.YteoljiclmhmbnaaDoorW.PrintWords

/-- A key stands where it may. -/
def OkAt (xs : List ByteArray) (st : Bool) (i : Nat) : Prop :=
  (kAt xs i).toList.isEmpty = false ∧ noZ (kAt xs i) ∧ (0 < i → ltB (kAt xs i) (kAt xs (i - 1)) = false ∧ (st = true → ((kAt xs i).toList == (kAt xs (i - 1)).toList) = false))
/-- Some bool is returned, and it tells p. -/
def BoolIff (p : Prop) (w : World) (e : Ending) (w' : World) : Prop := ∃ b : Bool, e = .returned (.bool b) ∧ (b = true ↔ p) ∧ Below w.heap.size w w'
def Ord (xs : List ByteArray) (st : Bool) : Prop := xs ≠ [] ∧ ∀ i, i < xs.length → OkAt xs st i
theorem upto_succ {p : Nat → Prop} {k : Nat} (h : ∀ i, i < k → p i) (hk : p k) : ∀ i, i < k + 1 → p i := by
  intro i hi
  by_cases e : i = k
  · subst e; exact hk
  · exact h i (by omega)
theorem clean_one (b : Nat) (s : ByteArray) (w : World) (hb : s.size ≤ 2147483647) (h : w.heap[b]? = some (.cells #[.string s] 9 (0, 0))) :
    Calls Tryd.prog 50 #[.slice (some ⟨b, 0, none⟩) 1 1] w fun e w' => ∃ x : Bool, e = .returned (.bool x) ∧ (x = true ↔ noZ s) ∧ w' = w := by
  have hC : Kd.string.C w (some ⟨b, 0, none⟩) [s].length [s] := C_of_block (cs := [.string s]) h (reps_strs _ [s]) (by simp)
  refine (clean_any _ 1 [s] w hC ⟨by simp, by simpa using hb⟩).mono ?_
  rintro e w' ⟨x, rfl, hx, rfl⟩
  exact ⟨x, rfl, by simpa using hx, rfl⟩

end Go.Proofs.YteoljiclmhmbnaaDoor.Da

/-
  The walks of laws.same[impl.Hit] (where both are equal) and laws.builds.
-/
set_option linter.unusedVariables false
set_option linter.unusedSimpArgs false
namespace Go.Proofs.YteoljiclmhmbnaaDoor.Da
open Go.RowKit Go.ChangeShapes Go.Proofs.YteoljiclmhmbnaaDoor.K Go.Proofs.YteoljiclmhmbnaaDoorW.PrintWords

theorem eqHit_run (a b : Int) (W : World) : (Op.equalIn 10000 tHit (.agg #[.int .i64 a, .int .i64 b]) (.agg #[.int .i64 a, .int .i64 b])).run Tryd.prog W = .ok true W := by
  have h : ∀ v : Int, (Op.equalIn 9999 3 (.int .i64 v) (.int .i64 v)).run Tryd.prog W = .ok true W := fun v => by
    have := run_equalIn_int (P := Tryd.prog) W 9998 3 .i64 .i64 v v Tryd.underlying3
    simpa using this
  exact eqA_of Tryd.underlying159 (by kernel_rfl) (eqf_cons (r := true) (s := true) rfl (a := .int .i64 a) (by kernel_rfl) (b := .int .i64 a) (by kernel_rfl) (h a) (eqf_last rfl (a := .int .i64 b) (by kernel_rfl) (b := .int .i64 b) (by kernel_rfl) (h b)))
theorem hits_at {w : World} {A : Option Addr} {n : Nat} {xs : List Hit} (h : kHit.C w A n xs) : ∀ j (hj : j < xs.length), ∃ ad, A = some ad ∧
    w.cell? (ad.add (j * 2)) = some (.int .i64 xs[j].1) ∧ w.cell? ⟨(ad.add (j * 2)).block, (ad.add (j * 2)).off + 1, none⟩ = some (.int .i64 xs[j].2) := by
  intro j hj
  obtain ⟨ad, hA, hc⟩ := h.2.2 (by have := h.1; omega)
  obtain ⟨c, hl, hk, hcell⟩ := hc j xs[j] (List.getElem?_eq_getElem hj)
  obtain ⟨_, _, rfl, rfl, rfl⟩ := hk
  have e : kHit.sz = 2 := rfl
  rw [e] at hcell
  have h0 := hcell 0 _ rfl
  have h1 := hcell 1 _ rfl
  rw [Nat.add_zero] at h0
  rw [add_field _ _ _ (by decide)] at h1
  exact ⟨ad, hA, h0, h1⟩

end Go.Proofs.YteoljiclmhmbnaaDoor.Da

/-
  The walks of laws.trie and laws.builds.
-/
set_option linter.unusedVariables false
set_option linter.unusedSimpArgs false
namespace Go.Proofs.YteoljiclmhmbnaaDoor.Da
open Go.RowKit Go.ChangeShapes Go.Proofs.YteoljiclmhmbnaaDoor.K Go.Proofs.YteoljiclmhmbnaaDoorW.PrintWords

/-- The cells of an answer in a row. -/
theorem ans_at {w : World} {A : Option Addr} {n : Nat} {xs : List Ans} (h : kAns.C w A n xs) : ∀ j (hj : j < xs.length), ∃ ad, A = some ad ∧ ∃ A1 c1 A2 c2,
    w.cell? (ad.add (j * 6)) = some (.int .i64 xs[j].1.1) ∧ w.cell? ⟨(ad.add (j * 6)).block, (ad.add (j * 6)).off + 1, none⟩ = some (.bool xs[j].1.2) ∧
    w.cell? ⟨(ad.add (j * 6)).block, (ad.add (j * 6)).off + 2, none⟩ = some (.int .i64 xs[j].2.1.1) ∧ w.cell? ⟨(ad.add (j * 6)).block, (ad.add (j * 6)).off + 3, none⟩ = some (.bool xs[j].2.1.2) ∧
    w.cell? ⟨(ad.add (j * 6)).block, (ad.add (j * 6)).off + 4, none⟩ = some (.slice A1 xs[j].2.2.1.length c1) ∧ w.cell? ⟨(ad.add (j * 6)).block, (ad.add (j * 6)).off + 5, none⟩ = some (.slice A2 xs[j].2.2.2.length c2) ∧
    kHit.C w A1 xs[j].2.2.1.length xs[j].2.2.1 ∧ kHit.C w A2 xs[j].2.2.2.length xs[j].2.2.2 := by
  intro j hj
  obtain ⟨ad, hA, hc⟩ := h.2.2 (by have := h.1; omega)
  obtain ⟨c, hl, hk, hcell⟩ := hc j xs[j] (List.getElem?_eq_getElem hj)
  generalize xs[j] = x at hk ⊢
  obtain ⟨p1, q1, rfl, ⟨_, _, rfl, rfl, rfl⟩, p2, q2, rfl, ⟨_, _, rfl, rfl, rfl⟩, p3, q3, rfl, ⟨A1, c1, hp3, -, hC1⟩, ⟨A2, c2, hq3, -, hC2⟩⟩ := hk
  subst hp3
  subst hq3
  have e : kAns.sz = 6 := rfl
  rw [e] at hcell
  have h0 := hcell 0 _ rfl
  have h1 := hcell 1 _ rfl
  have h2 := hcell 2 _ rfl
  have h3 := hcell 3 _ rfl
  have h4 := hcell 4 _ rfl
  have h5 := hcell 5 _ rfl
  rw [Nat.add_zero] at h0
  rw [add_field _ _ _ (by decide)] at h1 h2 h3 h4 h5
  exact ⟨ad, hA, A1, c1, A2, c2, h0, h1, h2, h3, h4, h5, hC1, hC2⟩

/-- Six stores into a block. -/
def set6 (w : World) (b : Nat) (a0 a1 a2 a3 a4 a5 : Value) : World :=
  (((((w.setCell ⟨b, 0, none⟩ a0).setCell ⟨b, 1, none⟩ a1).setCell ⟨b, 2, none⟩ a2).setCell ⟨b, 3, none⟩ a3).setCell ⟨b, 4, none⟩ a4).setCell ⟨b, 5, none⟩ a5
theorem set6_R {α : Type} {d : Kd α} {e : Nat} {w : World} {base b : Nat} {v : Value} {xs : List α} (h : d.R e w base (fun k => base ≤ k) v xs) (hb : b < base) (a0 a1 a2 a3 a4 a5 : Value) : d.R e (set6 w b a0 a1 a2 a3 a4 a5) base (fun k => base ≤ k) v xs := by
  have hne : ∀ j k : Nat, base ≤ k → k ≠ (⟨b, j, none⟩ : Addr).block := fun j k hk => by show k ≠ b; omega
  exact Kd.R_far (Kd.R_far (Kd.R_far (Kd.R_far (Kd.R_far (Kd.R_far h (hne 0) _) (hne 1) _) (hne 2) _) (hne 3) _) (hne 4) _) (hne 5) _
theorem set6_below {w0 w : World} {b : Nat} (h : Below w0.heap.size w0 w) (hb : w0.heap.size ≤ b) (a0 a1 a2 a3 a4 a5 : Value) : Below w0.heap.size w0 (set6 w b a0 a1 a2 a3 a4 a5) :=
  (((((h.setCell hb _).setCell hb _).setCell hb _).setCell hb _).setCell hb _).setCell hb _

/-- What laws.trie returns. -/
def TrieRet (a : Ans) (w : World) (e : Ending) (w' : World) : Prop :=
  ∃ A1 c1 A2 c2, e = .returned (.tuple #[.agg #[.int .i64 a.1.1, .bool a.1.2, .int .i64 a.2.1.1, .bool a.2.1.2, .slice A1 a.2.2.1.length c1, .slice A2 a.2.2.2.length c2], .bool true]) ∧
    kHit.C w' A1 a.2.2.1.length a.2.2.1 ∧ kHit.C w' A2 a.2.2.2.length a.2.2.2 ∧ Below w.heap.size w w'
theorem asked_one {s : ByteArray} (hz : noZ s) (hs : s.size ≤ 2147483647) : Asked [s] := ⟨by simp, fun x hx => by rw [List.mem_singleton.1 hx]; exact ⟨hz, hs⟩⟩
theorem strs_new (w : World) (s : ByteArray) : Kd.string.C (w.alloc (.cells #[.string s] 9)) (some ⟨w.heap.size, 0, none⟩) [s].length [s] := C_of_block (cs := [.string s]) (heap_new w _) (reps_strs _ [s]) (by simp)

end Go.Proofs.YteoljiclmhmbnaaDoor.Da

/-
  Plain: keys that ascend can be built.
-/
set_option linter.unusedVariables false
set_option linter.unusedSimpArgs false
namespace Go.Proofs.YteoljiclmhmbnaaDoor.Da
open Go.RowKit Go.Proofs.YteoljiclmhmbnaaDoor.K

theorem less_leL : ∀ (x y : List UInt8), Op.bytesLess y x = false → leL (x.map UInt8.toNat) (y.map UInt8.toNat)
  | [], y, h => by cases y <;> simp [leL]
  | a :: x, [], h => by simp [Op.bytesLess] at h
  | a :: x, b :: y, h => by
    simp only [Op.bytesLess, Bool.or_eq_false_iff, Bool.and_eq_false_iff, decide_eq_false_iff_not, beq_eq_false_iff_ne] at h
    obtain ⟨h1, h2⟩ := h
    simp only [List.map_cons, leL]
    by_cases e : b = a
    · subst e
      exact .inr ⟨rfl, less_leL x y (by simpa using h2)⟩
    · left
      have h3 : ¬ b.toNat < a.toNat := fun h => h1 (UInt8.lt_iff_toNat_lt.2 h)
      have h4 : b.toNat ≠ a.toNat := fun h => e (UInt8.toNat.inj h)
      omega
theorem leL_trans : ∀ {x y z : List Nat}, leL x y → leL y z → leL x z
  | [], _, z, _, _ => by cases z <;> simp [leL]
  | _ :: _, [], _, h, _ => by simp [leL] at h
  | _ :: _, _ :: _, [], _, h => by simp [leL] at h
  | a :: x, b :: y, c :: z, h1, h2 => by
    simp only [leL] at h1 h2 ⊢
    rcases h1 with h1 | ⟨rfl, h1⟩
    · rcases h2 with h2 | ⟨rfl, h2⟩
      · exact .inl (by omega)
      · exact .inl h1
    · rcases h2 with h2 | ⟨rfl, h2⟩
      · exact .inl h2
      · exact .inr ⟨rfl, leL_trans h1 h2⟩
theorem leL_refl : ∀ (x : List Nat), leL x x
  | [] => by simp [leL]
  | a :: x => by unfold leL; exact .inr ⟨rfl, leL_refl x⟩
theorem ltB_leL {a b : ByteArray} (h : ltB b a = false) : leL (bl a) (bl b) := by
  unfold ltB at h
  rw [ByteArray.toList_eq, ByteArray.toList_eq] at h
  exact less_leL _ _ h
theorem Ord.le {xs : List ByteArray} {st : Bool} (h : Ord xs st) (i : Nat) : ∀ (d : Nat), i + d < xs.length → leL (bl (kAt xs i)) (bl (kAt xs (i + d)))
  | 0, _ => leL_refl _
  | d + 1, hd => by
    have h1 := Ord.le h i d (by omega)
    have h2 := ((h.2 (i + (d + 1)) hd).2.2 (by omega)).1
    rw [show i + (d + 1) - 1 = i + d from rfl] at h2
    exact leL_trans h1 (ltB_leL h2)
theorem pairwise_range {p : Nat → Nat → Prop} : ∀ n, (∀ i j, i < j → j < n → p i j) → (List.range n).Pairwise p := by
  intro n h
  rw [List.pairwise_iff_getElem]
  intro i j hi hj hij
  simp only [List.getElem_range]
  exact h i j hij (by simpa using hj)
theorem bl_le (s : ByteArray) : ∀ a ∈ bl s, a ≤ 255 := by
  intro a ha
  obtain ⟨b, _, rfl⟩ := List.mem_map.1 ha
  have := b.toNat_lt
  omega
theorem empty_toList {s : ByteArray} (h : s.toList.isEmpty = false) : bl s ≠ [] := by
  intro e
  have : s.data.toList = [] := List.map_eq_nil_iff.1 e
  rw [ByteArray.toList_eq, this] at h
  cases h
theorem cost_ks (keys : List ByteArray) (ids : List Int) : ∀ n, n ≤ keys.length → cost (ksOf keys ids 0 (List.range n)) + n = sumL (keys.take n)
  | 0, _ => by simp [ksOf, cost, sumL]
  | n + 1, h => by
    have ih := cost_ks keys ids n (by omega)
    have happ : ∀ a b : Ks, cost (a ++ b) = cost a + cost b := by
      intro a b
      induction a with
      | nil => simp [cost]
      | cons x r ih => obtain ⟨s, id⟩ := x; simp only [List.cons_append, cost, ih]; omega
    rw [sumL_take_succ (by omega), List.range_succ]
    unfold ksOf at ih ⊢
    rw [List.map_append, happ]
    simp only [List.map_cons, List.map_nil, cost, List.drop_zero, bl_length, kAt_eq (show n < keys.length by omega)] at ih ⊢
    omega
theorem size_le_sum {xs : List ByteArray} {s : ByteArray} (h : s ∈ xs) : s.size + 1 ≤ sumL xs := by
  induction xs with
  | nil => cases h
  | cons x r ih =>
    simp only [sumL]
    rcases List.mem_cons.1 h with rfl | h
    · omega
    · have := ih h; omega
theorem len_le_sum (xs : List ByteArray) : xs.length ≤ sumL xs := by
  induction xs with
  | nil => simp
  | cons x r ih => simp only [sumL, List.length_cons]; omega
/-- The keys that the laws let in can be built. -/
theorem keys_of' {keys : List ByteArray} {ids : List Int} {st : Bool} (ho : Ord keys st) (hi : ∀ x ∈ ids, 0 ≤ x ∧ x ≤ 2147483647) (hl : ids.length = keys.length) (hn : keys.length ≤ 4000) (hz : ∀ s ∈ keys, s.size ≤ 4000) (hs : sumL keys ≤ 8000) : Keys keys ids where
  ne := ho.1
  len := hn
  il := hl
  idr := hi
  sz := hz
  asc := fun i h => by
    have h2 := ((ho.2 (i + 1) h).2.2 (by omega)).1
    rw [show i + 1 - 1 = i by omega, kAt_eq h, kAt_eq (by omega)] at h2
    exact h2
  srt := by
    unfold Srt ksOf
    rw [List.pairwise_map]
    refine pairwise_range _ fun i j hij hj => ?_
    have := ho.le i (j - i) (by omega)
    rw [show i + (j - i) = j by omega] at this
    simpa using this
  byt := by
    intro x hx a ha
    obtain ⟨j, hj, rfl⟩ := List.mem_map.1 hx
    have hj' : j < keys.length := by simpa using hj
    simp only [List.drop_zero] at ha
    exact ⟨(ho.2 j hj').2.1 a ha, bl_le _ a ha⟩
  full := by
    rw [firstE_none]
    intro x hx
    obtain ⟨j, hj, rfl⟩ := List.mem_map.1 hx
    have hj' : j < keys.length := by simpa using hj
    simp only [List.drop_zero]
    exact empty_toList (ho.2 j hj').1
  cost := by
    have := cost_ks keys ids keys.length (Nat.le_refl _)
    rw [List.take_length] at this
    omega
theorem keys_of {keys : List ByteArray} {ids : List Int} {st : Bool} (ho : Ord keys st) (hi : ∀ x ∈ ids, 0 ≤ x ∧ x ≤ 2147483647) (hl : ids.length = keys.length) (hs : sumL keys ≤ 4000) : Keys keys ids :=
  keys_of' ho hi hl (Nat.le_trans (len_le_sum _) hs) (fun s h => by have := size_le_sum h; omega) (by omega)
end Go.Proofs.YteoljiclmhmbnaaDoor.Da

/-
  The walk of laws.builds.
-/
set_option linter.unusedVariables false
set_option linter.unusedSimpArgs false
namespace Go.Proofs.YteoljiclmhmbnaaDoor.Da
open Go.RowKit Go.ChangeShapes Go.Proofs.YteoljiclmhmbnaaDoor.K Go.Proofs.YteoljiclmhmbnaaDoorW.PrintWords

def bKeys : List ByteArray := [⟨#[97]⟩, ⟨#[97, 98]⟩]
def bIds : List Int := [3, 5]
theorem b_ord : Ord bKeys false := by
  refine ⟨by decide, fun i hi => ?_⟩
  have hi' : i < 2 := hi
  have h0 : kAt bKeys 0 = ⟨#[97]⟩ := rfl
  have h1 : kAt bKeys 1 = ⟨#[97, 98]⟩ := rfl
  have hc : i = 0 ∨ i = 1 := by omega
  rcases hc with rfl | rfl
  · refine ⟨by rw [h0, ByteArray.toList_eq]; rfl, by rw [h0]; intro a ha; simp [bl] at ha; omega, fun h => absurd h (by omega)⟩
  · refine ⟨by rw [h1, ByteArray.toList_eq]; rfl, by rw [h1]; intro a ha; simp [bl] at ha; omega, fun _ => ⟨?_, by simp⟩⟩
    rw [h1, show 1 - 1 = 0 from rfl, h0]
    unfold ltB
    rw [ByteArray.toList_eq, ByteArray.toList_eq]
    rfl
theorem b_keys : Keys bKeys bIds := keys_of b_ord (by decide) rfl (by decide)
theorem b_ans : ansF (ksAll bKeys bIds) ⟨#[97, 98]⟩ = ((5, true), (5, true), [(3, 1), (5, 2)], [(3, 1), (5, 2)]) := by rfl

def bIn : List ByteArray := [⟨#[97, 98]⟩]
def bHits : List Hit := [(3, 1), (5, 2)]
theorem b_asked : Asked bIn := by
  refine asked_one ?_ (by decide)
  intro a ha
  simp [bl] at ha
  omega
theorem b_hits (w : World) : kHit.C (w.alloc (.cells #[.int .i64 3, .int .i64 1, .int .i64 5, .int .i64 2] tHit)) (some ⟨w.heap.size, 0, none⟩) bHits.length bHits := by
  have hm : ∀ W (h : Hit), kHit.K W h [.int .i64 h.1, .int .i64 h.2] := fun W h => ⟨[.int .i64 h.1], [.int .i64 h.2], rfl, rfl, rfl⟩
  exact C_of_block (cs := [.int .i64 3, .int .i64 1, .int .i64 5, .int .i64 2]) (heap_new w _) (((Reps.none _ _).snoc (hm _ (3, 1)) rfl).snoc (hm _ (5, 2)) rfl) (by decide)
/-- What builds lays. -/
def bBlocks : List Obj := [.cells #[.string ⟨#[97]⟩, .string ⟨#[97, 98]⟩] 9, .cells #[.int .i64 3, .int .i64 5] 3, .cells #[.string ⟨#[97, 98]⟩] 9]
theorem b_laid (w : World) : Kd.string.C (allocs w bBlocks) (some ⟨w.heap.size, 0, none⟩) bKeys.length bKeys ∧ (Kd.int .i64).C (allocs w bBlocks) (some ⟨w.heap.size + 1, 0, none⟩) bIds.length bIds ∧ Kd.string.C (allocs w bBlocks) (some ⟨w.heap.size + 2, 0, none⟩) bIn.length bIn ∧ Below w.heap.size w (allocs w bBlocks) := by
  have b0 : (allocs w bBlocks).heap[w.heap.size]? = some (.cells #[.string ⟨#[97]⟩, .string ⟨#[97, 98]⟩] 9) := allocs_new w bBlocks 0 _ rfl
  have b1 : (allocs w bBlocks).heap[w.heap.size + 1]? = some (.cells #[.int .i64 3, .int .i64 5] 3) := allocs_new w bBlocks 1 _ rfl
  have b2 : (allocs w bBlocks).heap[w.heap.size + 2]? = some (.cells #[.string ⟨#[97, 98]⟩] 9) := allocs_new w bBlocks 2 _ rfl
  exact ⟨C_of_block (cs := [.string ⟨#[97]⟩, .string ⟨#[97, 98]⟩]) b0 (reps_strs _ bKeys) (by decide), C_of_block (cs := [.int .i64 3, .int .i64 5]) b1 (reps_ints _ _ bIds) (by decide), C_of_block (cs := [.string ⟨#[97, 98]⟩]) b2 (reps_strs _ bIn) (by decide), allocs_below _ _⟩

end Go.Proofs.YteoljiclmhmbnaaDoor.Da

/-
  few at one list and at two; the walk of laws.FnTrieEmpty.
-/
set_option linter.unusedVariables false
set_option linter.unusedSimpArgs false
namespace Go.Proofs.YteoljiclmhmbnaaDoor.Da
open Go.RowKit Go.ChangeShapes Go.Proofs.YteoljiclmhmbnaaDoor.K Go.Proofs.YteoljiclmhmbnaaDoorW.PrintWords

theorem few_one (A : Option Addr) (c : Nat) (keys : List ByteArray) (w : World) (hC : Kd.string.C w A keys.length keys) (hc : keys.length ≤ c) (hf : fits3 keys) :
    Calls Tryd.prog 38 #[.slice (some ⟨w.heap.size, 0, none⟩) 1 1] (w.alloc (.cells #[.slice A keys.length c] 29)) (BoolIf (sumL keys ≤ 4000) w) := by
  have hD : (Kd.slice 9 Kd.string).C (w.alloc (.cells #[.slice A keys.length c] 29)) (some ⟨w.heap.size, 0, none⟩) [keys].length [keys] :=
    C_of_block (cs := [.slice A keys.length c]) (heap_new w _) ((Reps.none _ _).snoc ⟨A, c, rfl, hc, Kd.C_alloc hC _⟩ rfl) (by simp)
  have hs := sumL_fits hf
  refine (few_sum _ 1 [keys] _ hD (by simp only [sumLL]; omega)).mono ?_
  rintro e w' ⟨b, rfl, hb, hw⟩
  exact ⟨b, rfl, fun h => by have := hb h; simp only [sumLL] at this; omega, ((Below.refl _ w).alloc (Nat.le_refl _) _).trans (hw.mono (by simp))⟩
theorem few_two (b : Nat) (A B : Option Addr) (c d : Nat) (keys xs : List ByteArray) (w : World) (hC : Kd.string.C w A keys.length keys) (hc : keys.length ≤ c) (hf : fits3 keys) (hX : Kd.string.C w B xs.length xs) (hd : xs.length ≤ d) (hg : fits3 xs) (hb : b = w.heap.size) :
    Calls Tryd.prog 38 #[.slice (some ⟨b, 0, none⟩) 2 2] (w.alloc (.cells #[.slice A keys.length c, .slice B xs.length d] 29)) (BoolIf (sumL keys + sumL xs ≤ 4000) w) := by
  subst hb
  have k1 : (Kd.slice 9 Kd.string).K (w.alloc (.cells #[.slice A keys.length c, .slice B xs.length d] 29)) keys [.slice A keys.length c] := ⟨A, c, rfl, hc, Kd.C_alloc hC _⟩
  have k2 : (Kd.slice 9 Kd.string).K (w.alloc (.cells #[.slice A keys.length c, .slice B xs.length d] 29)) xs [.slice B xs.length d] := ⟨B, d, rfl, hd, Kd.C_alloc hX _⟩
  have hD : (Kd.slice 9 Kd.string).C (w.alloc (.cells #[.slice A keys.length c, .slice B xs.length d] 29)) (some ⟨w.heap.size, 0, none⟩) [keys, xs].length [keys, xs] :=
    C_of_block (cs := [.slice A keys.length c, .slice B xs.length d]) (heap_new w _) (((Reps.none _ _).snoc k1 rfl).snoc k2 rfl) (by simp)
  have hs := sumL_fits hf
  have ht := sumL_fits hg
  refine (few_sum _ 2 [keys, xs] _ hD (by simp only [sumLL]; omega)).mono ?_
  rintro e w' ⟨b, rfl, hb, hw⟩
  exact ⟨b, rfl, fun h => by have := hb h; simp only [sumLL] at this; omega, ((Below.refl _ w).alloc (Nat.le_refl _) _).trans (hw.mono (by simp))⟩

end Go.Proofs.YteoljiclmhmbnaaDoor.Da

/-
  The walk of laws.has[string].
-/
set_option linter.unusedVariables false
set_option linter.unusedSimpArgs false
namespace Go.Proofs.YteoljiclmhmbnaaDoor.K
open Go.RowKit Go.Proofs.YteoljiclmhmbnaaDoorW.PrintWords

theorem atHasStr {w : World} {A : Option Addr} {n : Nat} {xs : List ByteArray} (h : (Kd.string).C w A n xs) : ∀ j (hj : j < xs.length), ∃ ad, A = some ad ∧ w.cell? (ad.add j) = some (Value.string xs[j]) := by
  intro j hj
  obtain ⟨ad, hA, hc⟩ := h.2.2 (by have := h.1; omega)
  obtain ⟨c, hl, hk, hcell⟩ := hc j xs[j] (List.getElem?_eq_getElem hj)
  have hk' : c = [Value.string xs[j]] := hk
  subst hk'
  have := hcell 0 _ rfl
  have e : (Kd.string).sz = 1 := rfl
  rw [e, Nat.mul_one, Nat.add_zero] at this
  exact ⟨ad, hA, this⟩

set_option maxHeartbeats 400000 in
theorem hasStr_any (A : Option Addr) (c : Nat) (xs : List ByteArray) (x : ByteArray) (w : World) (hC : (Kd.string).C w A xs.length xs) :
    Calls Tryd.prog 25 #[.slice A xs.length c, .string x] w fun e w' => e = .returned (.bool (memB x xs)) ∧ Below w.heap.size w w' := by
  have hm := hC.2.1
  have HC := Lib.hid hC
  clear hC
  go_enter Tryd.func25, Tryd.ntmps25
  go_wp2
  go_loopw [8] (fun i wr => ∃ k : Nat, k ≤ xs.length ∧ i = .int .i64 k ∧ Hid (x ∉ xs.take k) ∧ Below w.heap.size w wr) (fun i _ => xs.length - (intOf i).toNat)
  case atStart => exact ⟨0, Nat.zero_le _, rfl, Lib.hid (by simp), Below.refl _ _⟩
  case round =>
    obtain ⟨k, hk, rfl, hall, hbel⟩ := hrel
    by_cases hlt : k < xs.length
    · obtain ⟨ad, rfl, hs⟩ := atHasStr HC.out k hlt
      have hs' := (hbel.cell (World.block_lt_of_cell? w _ hs)).trans hs
      clear hs
      by_cases hx : xs[k] = x
      · have ht : (xs[k].toList == x.toList) = true := by rw [beq_iff_eq, hx]
        have HM := Lib.hid (show x ∈ xs by rw [← hx]; exact List.getElem_mem hlt)
        clear hx
        go_wp2
        go_ret
        exact ⟨by rw [memB_true HM.out]; rfl, hbel⟩
      · have ht : (xs[k].toList == x.toList) = false := by rw [beq_eq_false_iff_ne]; exact fun e => hx (ba_toList e)
        have HX := Lib.hid hx
        clear hx
        go_wp2
        refine ⟨⟨k + 1, by omega, by go_num, Lib.hid ?_, hbel⟩, by simp [intOf]; omega⟩
        rw [List.take_succ_eq_append_getElem hlt]
        intro hm
        rcases List.mem_append.1 hm with hm | hm
        · exact hall.out hm
        · exact HX.out (List.mem_singleton.1 hm).symm
    · go_wp2
      go_ret
      obtain rfl : k = xs.length := by omega
      have := hall.out
      rw [List.take_length] at this
      exact ⟨by rw [memB_false this]; rfl, hbel⟩
end Go.Proofs.YteoljiclmhmbnaaDoor.K

/-
  The walks of spec.dBegins and spec.Half.
-/
set_option linter.unusedVariables false
set_option linter.unusedSimpArgs false
namespace Go.Proofs.YteoljiclmhmbnaaDoor.Da
open Go.RowKit Go.ChangeShapes Go.Proofs.YteoljiclmhmbnaaDoor.K Go.Proofs.YteoljiclmhmbnaaDoorW.PrintWords

/-- Whether a text begins with another one, as the code reckons it. -/
def begB (a b : ByteArray) : Bool := decide (b.size ≤ a.size) && ((a.extract 0 b.size).toList == b.toList)
theorem begB_no {a b : ByteArray} (h : begB a b = false) : ¬ bl b <+: bl a := by
  intro hp
  have hl : b.size ≤ a.size := by have := hp.length_le; rw [bl_length, bl_length] at this; exact this
  have hd : b.data.toList = a.data.toList.take b.size := by
    have h1 := List.prefix_iff_eq_take.1 hp
    rw [bl_length] at h1
    unfold bl at h1
    rw [← List.map_take] at h1
    exact (List.map_inj_right (fun x y h => UInt8.toNat.inj h)).1 h1
  unfold begB at h
  rw [decide_eq_true hl, Bool.true_and, beq_eq_false_iff_ne, ByteArray.toList_eq, ByteArray.toList_eq] at h
  apply h
  rw [hd]
  simp
/-- Why an input is no half. -/
def HalfNo (keys : List ByteArray) (s : ByteArray) : Prop := (s ∈ keys ∧ s.toList.isEmpty = false) ∨ ∀ k ∈ keys, ¬ bl s <+: bl k
def HalfRet (keys : List ByteArray) (s : ByteArray) (w : World) (e : Ending) (w' : World) : Prop := ∃ b : Bool, e = .returned (.bool b) ∧ (b = false → HalfNo keys s) ∧ w = w'
end Go.Proofs.YteoljiclmhmbnaaDoor.Da

/-
  The walk of laws.FnTrieMisses.
-/
set_option linter.unusedVariables false
set_option linter.unusedSimpArgs false
namespace Go.Proofs.YteoljiclmhmbnaaDoor.Da
open Go.RowKit Go.ChangeShapes Go.Proofs.YteoljiclmhmbnaaDoor.K Go.Proofs.YteoljiclmhmbnaaDoorW.PrintWords

theorem mem_ks {keys : List ByteArray} {ids : List Int} {x : List Nat × Int} : x ∈ ksAll keys ids ↔ ∃ j, j < keys.length ∧ x = (bl (kAt keys j), idAt ids j) := by
  unfold ksAll ksOf
  rw [List.mem_map]
  constructor
  · rintro ⟨j, hj, rfl⟩
    exact ⟨j, by simpa using hj, by simp⟩
  · rintro ⟨j, hj, rfl⟩
    exact ⟨j, by simpa using hj, by simp⟩
theorem bl_inj {a b : ByteArray} (h : bl a = bl b) : a = b := by
  apply ba_toList
  rw [ByteArray.toList_eq, ByteArray.toList_eq]
  exact (List.map_inj_right (fun x y h => UInt8.toNat.inj h)).1 h
theorem bl_nil {s : ByteArray} (h : bl s = []) : s.toList.isEmpty = true := by
  have : s.data.toList = [] := List.map_eq_nil_iff.1 h
  rw [ByteArray.toList_eq, this]
  rfl
theorem key_at {keys : List ByteArray} {s : ByteArray} (h : s ∈ keys) : ∃ j, j < keys.length ∧ kAt keys j = s := by
  obtain ⟨j, hj, rfl⟩ := List.mem_iff_getElem.1 h
  exact ⟨j, hj, kAt_eq hj⟩
theorem at_key {keys : List ByteArray} {j : Nat} (h : j < keys.length) : kAt keys j ∈ keys := by
  rw [kAt_eq h]
  exact List.getElem_mem h
theorem misses_law {keys : List ByteArray} {ids : List Int} {st : Bool} {s : ByteArray} (ho : Ord keys st) (hh : HalfNo keys s) : (findF (ksAll keys ids) (bl s)).2 = memB s keys := by
  have hin : s ∈ keys → walkK (bl s) (ksAll keys ids) ≠ [] ∧ bl s ≠ [] := by
    intro h
    obtain ⟨j, hj, e⟩ := key_at h
    refine ⟨?_, ?_⟩
    · intro e2
      have : (([] : List Nat), idAt ids j) ∈ walkK (bl s) (ksAll keys ids) := mem_walkK.2 (mem_ks.2 ⟨j, hj, by rw [e, List.append_nil]⟩)
      rw [e2] at this
      cases this
    · intro e2
      have := (ho.2 j hj).1
      rw [e, bl_nil e2] at this
      cases this
  unfold findF
  split
  · next h =>
    rw [memB_false]
    intro hm
    exact (hin hm).2 h
  · next h =>
    split
    · next h2 =>
      rw [memB_false]
      intro hm
      exact (hin hm).1 h2
    · next h2 =>
      rw [memB_true]
      rcases hh with ⟨hm, _⟩ | hn
      · exact hm
      · exfalso
        obtain ⟨⟨r, id⟩, hx⟩ := List.exists_mem_of_ne_nil _ h2
        obtain ⟨j, hj, e⟩ := mem_ks.1 (mem_walkK.1 hx)
        injection e with e1 e2
        exact hn _ (at_key hj) ⟨r, e1⟩

end Go.Proofs.YteoljiclmhmbnaaDoor.Da

/-
  The walks of laws.sameFound and laws.sameTrie (where both are equal).
-/
set_option linter.unusedVariables false
set_option linter.unusedSimpArgs false
namespace Go.Proofs.YteoljiclmhmbnaaDoor.Da
open Go.RowKit Go.ChangeShapes Go.Proofs.YteoljiclmhmbnaaDoor.K Go.Proofs.YteoljiclmhmbnaaDoorW.PrintWords

/-- An answer as a value. -/
def ansV (a : Ans) (A1 A2 : Option Addr) (c1 c2 : Nat) : Value := .agg #[.int .i64 a.1.1, .bool a.1.2, .int .i64 a.2.1.1, .bool a.2.1.2, .slice A1 a.2.2.1.length c1, .slice A2 a.2.2.2.length c2]
end Go.Proofs.YteoljiclmhmbnaaDoor.Da

/-
  The walk of laws.FnTrieTwice.
-/
set_option linter.unusedVariables false
set_option linter.unusedSimpArgs false
namespace Go.Proofs.YteoljiclmhmbnaaDoor.Da
open Go.RowKit Go.ChangeShapes Go.Proofs.YteoljiclmhmbnaaDoor.K Go.Proofs.YteoljiclmhmbnaaDoorW.PrintWords

theorem ord_noZ {keys : List ByteArray} {st : Bool} (h : Ord keys st) {s : ByteArray} (hs : s ∈ keys) : noZ s := by
  obtain ⟨j, hj, rfl⟩ := key_at hs
  exact (h.2 j hj).2.1
theorem leL_antisymm : ∀ {x y : List Nat}, leL x y → leL y x → x = y
  | [], [], _, _ => rfl
  | [], _ :: _, _, h => by simp [leL] at h
  | _ :: _, [], h, _ => by simp [leL] at h
  | a :: x, b :: y, h1, h2 => by
    simp only [leL] at h1 h2
    rcases h1 with h1 | ⟨rfl, h1⟩
    · rcases h2 with h2 | ⟨rfl, h2⟩ <;> omega
    · rcases h2 with h2 | ⟨_, h2⟩
      · omega
      · rw [leL_antisymm h1 h2]
theorem firstE_find : ∀ ks : Ks, firstE ks = (ks.find? fun x => decide (x.1 = [])).map (·.2)
  | [] => rfl
  | ([], id) :: r => by simp [firstE]
  | (a :: s, id) :: r => by
    have := firstE_find r
    simp only [firstE, List.find?_cons]
    simpa using this
theorem find_tails (a : Nat) (s : List Nat) : ∀ ks : Ks, ((tails a ks).find? fun x => decide (x.1 = s)).map (·.2) = (ks.find? fun x => decide (x.1 = a :: s)).map (·.2)
  | [] => rfl
  | ([], id) :: r => by
    have := find_tails a s r
    have e : tails a (([], id) :: r) = tails a r := by simp [tails]
    rw [e, this]
    simp
  | (b :: t, id) :: r => by
    have ih := find_tails a s r
    by_cases hb : b = a
    · subst hb
      rw [tails_cons_hit]
      by_cases ht : t = s
      · subst ht; simp
      · simp only [List.find?_cons, ht, decide_false, List.cons.injEq, true_and]
        exact ih
    · have e : tails a ((b :: t, id) :: r) = tails a r := by simp [tails, hb]
      rw [e, ih]
      simp [hb]
theorem firstE_walk : ∀ (s : List Nat) (ks : Ks), firstE (walkK s ks) = (ks.find? fun x => decide (x.1 = s)).map (·.2)
  | [], ks => firstE_find ks
  | a :: s, ks => by rw [walkK, firstE_walk s, find_tails]
/-- Of equal keys the first identifier is found. -/
theorem find_first {keys : List ByteArray} {ids : List Int} {st : Bool} (ho : Ord keys st) {k f : Nat} (hk : k < keys.length) (hf : f ≤ k) (he : ∀ j, f ≤ j → j ≤ k → kAt keys j = kAt keys k) (hs : f = 0 ∨ kAt keys (f - 1) ≠ kAt keys k) :
    findF (ksAll keys ids) (bl (kAt keys k)) = (idAt ids f, true) := by
  have hne : ∀ j, j < f → kAt keys j ≠ kAt keys k := by
    intro j hj e
    rcases hs with rfl | hs
    · omega
    · apply hs
      have h1 := ho.le j (f - 1 - j) (by omega)
      have h2 := ho.le (f - 1) (k - (f - 1)) (by omega)
      rw [show j + (f - 1 - j) = f - 1 by omega] at h1
      rw [show f - 1 + (k - (f - 1)) = k by omega, ← e] at h2
      rw [← e]
      exact (bl_inj (leL_antisymm h1 h2)).symm
  have hfd : ((ksAll keys ids).find? fun x => decide (x.1 = bl (kAt keys k))) = some (bl (kAt keys f), idAt ids f) := by
    unfold ksAll ksOf
    rw [List.find?_map]
    have hr : (List.range keys.length).find? ((fun x : List Nat × Int => decide (x.1 = bl (kAt keys k))) ∘ fun j => ((bl (kAt keys j)).drop 0, idAt ids j)) = some f := by
      rw [List.find?_range_eq_some]
      refine ⟨by simp [he f (Nat.le_refl _) hf], by simp; omega, fun j hj => ?_⟩
      have := hne j hj
      simp only [Function.comp, List.drop_zero, Bool.not_eq_eq_eq_not, Bool.not_true, decide_eq_false_iff_not]
      exact fun e => this (bl_inj e)
    rw [hr]
    simp
  have hE : firstE (walkK (bl (kAt keys k)) (ksAll keys ids)) = some (idAt ids f) := by
    rw [firstE_walk, hfd]
    rfl
  unfold findF
  rw [if_neg (fun e => by have := (ho.2 k hk).1; rw [bl_nil e] at this; cases this), if_neg (fun e => by rw [e] at hE; cases hE), hE]
  rfl

end Go.Proofs.YteoljiclmhmbnaaDoor.Da

/-
  Plain: without one of its keys a trie tells all the others.
-/
set_option linter.unusedVariables false
set_option linter.unusedSimpArgs false
namespace Go.Proofs.YteoljiclmhmbnaaDoor.Da
open Go.RowKit Go.Proofs.YteoljiclmhmbnaaDoor.K

theorem ks_cons (x : ByteArray) (xs : List ByteArray) (i : Int) (is : List Int) : ksAll (x :: xs) (i :: is) = (bl x, i) :: ksAll xs is := by
  unfold ksAll ksOf
  rw [List.length_cons, List.range_succ_eq_map, List.map_cons, List.map_map]
  congr 1
theorem ks_append : ∀ (a : List ByteArray) (c : List Int) (b : List ByteArray) (d : List Int), a.length = c.length → ksAll (a ++ b) (c ++ d) = ksAll a c ++ ksAll b d
  | [], [], b, d, _ => rfl
  | x :: a, i :: c, b, d, h => by
    rw [List.cons_append, List.cons_append, ks_cons, ks_cons, ks_append a c b d (by simpa using h), List.cons_append]
  | [], _ :: _, _, _, h => by simp at h
  | _ :: _, [], _, _, h => by simp at h
theorem walk_snoc (p : List Nat) (a : Nat) (ks : Ks) : walkK (p ++ [a]) ks = tails a (walkK p ks) := by
  rw [walkK_append]
  rfl
theorem find_mid {P Q : Ks} {y : List Nat × Int} {f : List Nat × Int → Bool} (h : f y = false) : (P ++ y :: Q).find? f = (P ++ Q).find? f := by
  rw [List.find?_append, List.find?_append, List.find?_cons, h]
theorem hits_without {P Q : Ks} {x : List Nat} {id : Int} (hP : ∀ y ∈ P, y.1 ≠ x) (hQ : ∀ y ∈ Q, y.1 ≠ x) : ∀ (s p : List Nat),
    hitsF (walkK p (P ++ Q)) s p.length = (hitsF (walkK p (P ++ (x, id) :: Q)) s p.length).filter fun h => decide ((p ++ s).take h.2.toNat ≠ x)
  | [], p => by simp [hitsF]
  | a :: s, p => by
    have ih := hits_without (id := id) hP hQ s (p ++ [a])
    rw [hitsF, hitsF, ← walk_snoc, ← walk_snoc, List.filter_append]
    have hl : (p ++ [a]).length = p.length + 1 := by simp
    rw [hl] at ih
    rw [show p ++ [a] ++ s = p ++ a :: s by simp] at ih
    rw [ih]
    congr 1
    have ht : (p ++ a :: s).take (p.length + 1) = p ++ [a] := by
      rw [show p ++ a :: s = (p ++ [a]) ++ s by simp, ← hl, List.take_left]
    unfold hitAt
    rw [firstE_walk, firstE_walk]
    by_cases e : p ++ [a] = x
    · have h1 : (P ++ Q).find? (fun y => decide (y.1 = p ++ [a])) = none := by
        rw [List.find?_eq_none]
        intro y hy
        rw [e]
        rcases List.mem_append.1 hy with hy | hy
        · simpa using hP y hy
        · simpa using hQ y hy
      have h2 : (P ++ (x, id) :: Q).find? (fun y => decide (y.1 = p ++ [a])) = some (x, id) := by
        have h3 : P.find? (fun y => decide (y.1 = p ++ [a])) = none := by
          rw [List.find?_eq_none]
          intro y hy
          rw [e]
          simpa using hP y hy
        rw [List.find?_append, h3, List.find?_cons]
        simp [e]
      rw [h1, h2]
      simp only [Option.map_none, Option.map_some]
      rw [List.filter_cons, List.filter_nil]
      rw [show (((p.length + 1 : Nat) : Int)).toNat = p.length + 1 by omega, ht]
      simp [e]
    · rw [find_mid (y := (x, id)) (by simpa using fun h => e h.symm)]
      cases (P ++ Q).find? (fun y => decide (y.1 = p ++ [a])) with
      | none => rfl
      | some y =>
        simp only [Option.map_some]
        rw [List.filter_cons, List.filter_nil]
        rw [show (((p.length + 1 : Nat) : Int)).toNat = p.length + 1 by omega, ht]
        simp [e]
theorem kAt_append {a b : List ByteArray} {j : Nat} : kAt (a ++ b) j = if j < a.length then kAt a j else kAt b (j - a.length) := by
  unfold kAt
  split
  · next h => simp [List.getD, List.getElem?_append_left h]
  · next h => simp [List.getD, List.getElem?_append_right (Nat.le_of_not_lt h)]
theorem less_back : ∀ (x y : List UInt8), leL (x.map UInt8.toNat) (y.map UInt8.toNat) → Op.bytesLess y x = false
  | [], y, h => by cases y <;> rfl
  | a :: x, [], h => by simp [leL] at h
  | a :: x, b :: y, h => by
    simp only [List.map_cons, leL] at h
    simp only [Op.bytesLess, Bool.or_eq_false_iff, Bool.and_eq_false_iff, decide_eq_false_iff_not, beq_eq_false_iff_ne]
    rcases h with h | ⟨h, h2⟩
    · refine ⟨fun h3 => by have := UInt8.lt_iff_toNat_lt.1 h3; omega, .inl fun e => by rw [e] at h; omega⟩
    · have e : a = b := UInt8.toNat.inj h
      subst e
      exact ⟨fun h3 => by have := UInt8.lt_iff_toNat_lt.1 h3; omega, .inr (less_back x y h2)⟩
theorem leL_ltB {a b : ByteArray} (h : leL (bl a) (bl b)) : ltB b a = false := by
  unfold ltB
  rw [ByteArray.toList_eq, ByteArray.toList_eq]
  exact less_back _ _ h
theorem ltB_trans' {a b c : ByteArray} (h1 : ltB c b = false) (h2 : ltB b a = false) : ltB c a = false := leL_ltB (leL_trans (ltB_leL h2) (ltB_leL h1))
/-- Strictly ascending: no key twice. -/
theorem Ord.ne {keys : List ByteArray} (h : Ord keys true) {i j : Nat} (hij : i < j) (hj : j < keys.length) : kAt keys i ≠ kAt keys j := by
  intro e
  have h1 := h.le i (j - 1 - i) (by omega)
  rw [show i + (j - 1 - i) = j - 1 by omega, e] at h1
  have h2 := (h.2 j hj).2.2 (by omega)
  have h3 := ltB_leL h2.1
  have h4 : kAt keys (j - 1) = kAt keys j := bl_inj (leL_antisymm h3 h1)
  have h5 := h2.2 rfl
  rw [h4] at h5
  simp at h5

/-- The keys without one. -/
def lessK (keys : List ByteArray) (k : Nat) : List ByteArray := keys.take k ++ keys.drop (k + 1)
def lessI (ids : List Int) (k : Nat) : List Int := ids.take k ++ ids.drop (k + 1)
theorem kAt_less {keys : List ByteArray} {k j : Nat} (hk : k < keys.length) : kAt (lessK keys k) j = kAt keys (if j < k then j else j + 1) := by
  have hl : (keys.take k).length = k := by rw [List.length_take]; omega
  unfold lessK
  rw [kAt_append, hl]
  split
  · next h => unfold kAt; simp [List.getD, List.getElem?_take, h]
  · next h => unfold kAt; simp only [List.getD, List.getElem?_drop]; rw [show k + 1 + (j - k) = j + 1 by omega]
theorem less_length {keys : List ByteArray} {k : Nat} (hk : k < keys.length) : (lessK keys k).length = keys.length - 1 := by
  unfold lessK
  rw [List.length_append, List.length_take, List.length_drop]
  omega
theorem lessI_length {ids : List Int} {k : Nat} (hk : k < ids.length) : (lessI ids k).length = ids.length - 1 := by
  unfold lessI
  rw [List.length_append, List.length_take, List.length_drop]
  omega
theorem ord_less {keys : List ByteArray} {k : Nat} (h : Ord keys true) (hk : k < keys.length) (h2 : 2 ≤ keys.length) : Ord (lessK keys k) false := by
  have hl := less_length hk
  refine ⟨fun e => by rw [e] at hl; simp at hl; omega, fun i hi => ?_⟩
  rw [hl] at hi
  unfold OkAt
  rw [kAt_less hk, kAt_less hk]
  have hi1 : (if i < k then i else i + 1) < keys.length := by split <;> omega
  refine ⟨(h.2 _ hi1).1, (h.2 _ hi1).2.1, fun h0 => ⟨?_, by simp⟩⟩
  by_cases c1 : i < k
  · rw [if_pos c1, if_pos (by omega)]
    exact ((h.2 i (by omega)).2.2 h0).1
  · rw [if_neg c1]
    by_cases c2 : i - 1 < k
    · rw [if_pos c2]
      have e : i = k := by omega
      subst e
      have a1 := ((h.2 (i + 1) (by omega)).2.2 (by omega)).1
      have a2 := ((h.2 i (by omega)).2.2 h0).1
      rw [show i + 1 - 1 = i from rfl] at a1
      exact ltB_trans' a1 a2
    · rw [if_neg c2]
      have a1 := ((h.2 (i + 1) (by omega)).2.2 (by omega)).1
      rw [show i + 1 - 1 = i - 1 + 1 by omega] at a1
      exact a1
/-- The hits without a key are those that are not it. -/
theorem hits_less {keys : List ByteArray} {ids : List Int} {k : Nat} (s : ByteArray) (h : Ord keys true) (hl : ids.length = keys.length) (hk : k < keys.length) :
    hitsF (ksAll (lessK keys k) (lessI ids k)) (bl s) 0 = (hitsF (ksAll keys ids) (bl s) 0).filter fun x => decide ((bl s).take x.2.toNat ≠ bl (kAt keys k)) := by
  have hlt : (keys.take k).length = (ids.take k).length := by rw [List.length_take, List.length_take, hl]
  have e1 : ksAll (lessK keys k) (lessI ids k) = ksAll (keys.take k) (ids.take k) ++ ksAll (keys.drop (k + 1)) (ids.drop (k + 1)) := ks_append _ _ _ _ hlt
  have hki : k < ids.length := by omega
  have e2 : ksAll keys ids = ksAll (keys.take k) (ids.take k) ++ (bl (kAt keys k), ids[k]) :: ksAll (keys.drop (k + 1)) (ids.drop (k + 1)) := by
    have := ks_append (keys.take k) (ids.take k) (keys[k] :: keys.drop (k + 1)) (ids[k] :: ids.drop (k + 1)) hlt
    rw [ks_cons, List.getElem_cons_drop, List.getElem_cons_drop, List.take_append_drop, List.take_append_drop] at this
    rw [kAt_eq hk]
    exact this
  rw [e1, e2]
  refine hits_without (x := bl (kAt keys k)) (id := ids[k]) ?_ ?_ (bl s) []
  · intro y hy e
    obtain ⟨j, hj, rfl⟩ := mem_ks.1 hy
    have hj' : j < k := by rw [List.length_take] at hj; omega
    have : kAt (keys.take k) j = kAt keys j := by unfold kAt; simp [List.getD, List.getElem?_take, hj']
    rw [this] at e
    exact h.ne hj' hk (bl_inj e)
  · intro y hy e
    obtain ⟨j, hj, rfl⟩ := mem_ks.1 hy
    have hj' : k + 1 + j < keys.length := by rw [List.length_drop] at hj; omega
    have : kAt (keys.drop (k + 1)) j = kAt keys (k + 1 + j) := by unfold kAt; simp [List.getD, List.getElem?_drop]
    rw [this] at e
    exact h.ne (show k < k + 1 + j by omega) hj' (bl_inj e).symm
end Go.Proofs.YteoljiclmhmbnaaDoor.Da

/-
  Plain: the keys of an index, and how often each of them stands.
-/
set_option linter.unusedVariables false
set_option linter.unusedSimpArgs false
namespace Go.Proofs.YteoljiclmhmbnaaDoor.Da
open Go.RowKit Go.Proofs.YteoljiclmhmbnaaDoor.K

/-- What BuildIndexTable has gathered. -/
structure Ix where
  K : List ByteArray
  I : List Int
  no : Nat
  wd : ByteArray
  cnt : Nat → Nat
def bump (x : Ix) : Ix := { x with cnt := fun j => if j = x.no then x.cnt j + 1 else x.cnt j }
def stepI (x : Ix) (i : Nat) (key : ByteArray) : Ix := if key = x.wd then bump x else ⟨x.K ++ [key], x.I ++ [(i : Int)], i, key, x.cnt⟩
def ixF (ws : List ByteArray) : Nat → Ix
  | 0 => ⟨[], [], 0, ByteArray.empty, fun _ => 0⟩
  | i + 1 => stepI (ixF ws i) i (kAt ws i)
structure IxI (ws : List ByteArray) (i : Nat) (x : Ix) : Prop where
  len : x.I.length = x.K.length
  le : x.K.length ≤ i
  ids : ∀ z ∈ x.I, 0 ≤ z ∧ z < i
  last : 0 < i → x.wd = kAt ws (i - 1) ∧ 0 < x.K.length ∧ kAt x.K (x.K.length - 1) = x.wd ∧ x.no < i
  zero : i = 0 → x.wd = ByteArray.empty ∧ x.no = 0
  cz : ∀ j, i ≤ j → x.cnt j = 0
  cb : ∀ j, j < i → j + x.cnt j < i
  ok : ∀ j, j < x.K.length → OkAt x.K false j
  sum : sumL x.K ≤ sumL (ws.take i)
theorem kAt_left {K : List ByteArray} {key : ByteArray} {j : Nat} (h : j < K.length) : kAt (K ++ [key]) j = kAt K j := by
  rw [kAt_eq h, kAt_eq (by simp; omega), List.getElem_append_left h]
theorem kAt_last {K : List ByteArray} {key : ByteArray} : kAt (K ++ [key]) K.length = key := by
  rw [kAt_eq (by simp)]
  simp
theorem ne_empty {s : ByteArray} (h : s.toList.isEmpty = false) : s ≠ ByteArray.empty := by
  rintro rfl
  simp [ByteArray.toList_eq, ByteArray.empty, ByteArray.emptyWithCapacity] at h
  exact h rfl
theorem bytesLess_self : ∀ l : List UInt8, Op.bytesLess l l = false
  | [] => rfl
  | a :: l => by simp [Op.bytesLess, bytesLess_self l]
theorem ltB_self (a : ByteArray) : ltB a a = false := bytesLess_self _
theorem ixF_inv {ws : List ByteArray} (ho : Ord ws false) : ∀ i, i ≤ ws.length → IxI ws i (ixF ws i)
  | 0, _ => ⟨rfl, Nat.le_refl _, fun _ h => (nomatch h), fun h => absurd h (by omega), fun _ => ⟨rfl, rfl⟩, fun _ _ => rfl, fun j h => absurd h (by omega), fun j h => absurd h (by simp [ixF]), by simp [ixF, sumL]⟩
  | i + 1, hi => by
    have ih := ixF_inv ho i (by omega)
    have hok := ho.2 i (by omega)
    have hs : sumL (ws.take (i + 1)) = sumL (ws.take i) + (kAt ws i).size + 1 := by rw [sumL_take_succ (by omega), kAt_eq (by omega)]
    show IxI ws (i + 1) (stepI (ixF ws i) i (kAt ws i))
    generalize ixF ws i = x at ih
    unfold stepI
    by_cases e : kAt ws i = x.wd
    · rw [if_pos e]
      have hi0 : 0 < i := by
        rcases Nat.eq_zero_or_pos i with h | h
        · exact absurd (e.trans (ih.zero h).1) (ne_empty hok.1)
        · exact h
      obtain ⟨h1, h2, h3, h4⟩ := ih.last hi0
      refine ⟨ih.len, Nat.le_succ_of_le ih.le, fun z hz => ⟨(ih.ids z hz).1, by have := (ih.ids z hz).2; omega⟩, fun _ => ⟨e.symm, h2, h3, by show x.no < i + 1; omega⟩, fun h => absurd h (by omega), fun j hj => ?_, fun j hj => ?_, ih.ok, by show sumL x.K ≤ _; have := ih.sum; omega⟩
      · show (if j = x.no then x.cnt j + 1 else x.cnt j) = 0
        rw [if_neg (by omega)]
        exact ih.cz j (by omega)
      · show j + (if j = x.no then x.cnt j + 1 else x.cnt j) < i + 1
        by_cases hji : j < i
        · have := ih.cb j hji
          split <;> omega
        · rw [if_neg (by omega), ih.cz j (by omega)]
          omega
    · rw [if_neg e]
      refine ⟨by simp [ih.len], by have := ih.le; simp; omega, fun z hz => ?_, fun _ => ⟨rfl, by simp, by simp [kAt_last], by show i < i + 1; omega⟩, fun h => absurd h (by omega), fun j hj => ih.cz j (by omega), fun j hj => ?_, fun j hj => ?_, ?_⟩
      · rcases List.mem_append.1 hz with hz | hz
        · have := ih.ids z hz; omega
        · rw [List.mem_singleton.1 hz]; omega
      · show j + x.cnt j < i + 1
        by_cases hji : j < i
        · have := ih.cb j hji; omega
        · rw [ih.cz j (by omega)]; omega
      · show OkAt (x.K ++ [kAt ws i]) false j
        have hj' : j < x.K.length + 1 := by simpa using hj
        by_cases hjl : j < x.K.length
        · have h0 := ih.ok j hjl
          unfold OkAt at h0 ⊢
          rw [kAt_left hjl]
          refine ⟨h0.1, h0.2.1, fun hp => ⟨?_, fun h => (nomatch h)⟩⟩
          rw [kAt_left (by omega)]
          exact (h0.2.2 hp).1
        · obtain rfl : j = x.K.length := by omega
          unfold OkAt
          rw [kAt_last]
          refine ⟨hok.1, hok.2.1, fun hp => ⟨?_, fun h => (nomatch h)⟩⟩
          have hi0 : 0 < i := by have := ih.le; omega
          obtain ⟨h1, h2, h3, h4⟩ := ih.last hi0
          rw [kAt_left (by omega), h3, h1]
          exact (hok.2.2 hi0).1
      · show sumL (x.K ++ [kAt ws i]) ≤ _
        rw [sumL_append, hs]
        have := ih.sum
        simp only [sumL]
        omega
/-- An index of words. -/
def ixOf (ws : List ByteArray) : Ix := ixF ws ws.length
theorem ixOf_keys {ws : List ByteArray} (ho : Ord ws false) (hl : ws.length ≤ 2147483647) (hs : sumL (ixOf ws).K ≤ 4000) : Keys (ixOf ws).K (ixOf ws).I := by
  have h := ixF_inv ho ws.length (Nat.le_refl _)
  have hp : 0 < ws.length := List.length_pos_iff.2 ho.1
  exact keys_of (st := false) ⟨List.length_pos_iff.1 (h.last hp).2.1, h.ok⟩ (fun z hz => by have := h.ids z hz; omega) h.len hs

/-- The places of a key that stands n times more. -/
def rng (a : Int) (n : Nat) : List Int := (List.range (n + 1)).map fun (k : Nat) => a + (k : Int)
theorem rng_length (a : Int) (n : Nat) : (rng a n).length = n + 1 := by simp [rng]
def listsF (cnt : Nat → Nat) (H : List (Int × Int)) : List (List Int) := H.map fun h => rng h.1 (cnt h.1.toNat)
def callsF (cnt : Nat → Nat) (H : List (Int × Int)) : List (Int × Int) := H.flatMap fun h => (rng h.1 (cnt h.1.toNat)).map fun i => (i, h.2)
abbrev IAns := List Int × (List Int × (List (List Int) × List (Int × Int)))
def idsF (cnt : Nat → Nat) (f : Int × Bool) : List Int := if f.2 = true then rng f.1 (cnt f.1.toNat) else []
def ansI (x : Ix) (s : ByteArray) : IAns := (idsF x.cnt (findF (ksAll x.K x.I) (bl s)), (hitsF (ksAll x.K x.I) (bl s) 0).map (·.2), listsF x.cnt (hitsF (ksAll x.K x.I) (bl s) 0), callsF x.cnt (hitsF (ksAll x.K x.I) (bl s) 0))

/-- Each word twice. -/
def tw : List ByteArray → List ByteArray
  | [] => []
  | a :: r => a :: a :: tw r
theorem tw_length : ∀ ws, (tw ws).length = 2 * ws.length
  | [] => rfl
  | a :: r => by rw [tw, List.length_cons, List.length_cons, tw_length r, List.length_cons]; omega
theorem tw_append : ∀ a b, tw (a ++ b) = tw a ++ tw b
  | [], b => rfl
  | x :: a, b => by rw [List.cons_append, tw, tw, tw_append a b]; rfl
theorem tw_at : ∀ (ws : List ByteArray) (i : Nat), kAt (tw ws) (2 * i) = kAt ws i ∧ kAt (tw ws) (2 * i + 1) = kAt ws i
  | [], i => by simp [tw, kAt]
  | a :: r, 0 => ⟨rfl, rfl⟩
  | a :: r, i + 1 => by
    obtain ⟨h1, h2⟩ := tw_at r i
    rw [show 2 * (i + 1) = 2 * i + 1 + 1 by omega]
    exact ⟨h1, h2⟩
theorem tw_sum : ∀ ws, sumL (tw ws) = 2 * sumL ws
  | [] => rfl
  | a :: r => by simp only [tw, sumL, tw_sum r]; omega
theorem tw_ord {ws : List ByteArray} (ho : Ord ws false) : Ord (tw ws) false := by
  refine ⟨?_, fun j hj => ?_⟩
  · obtain ⟨a, r, rfl⟩ := List.exists_cons_of_ne_nil ho.1
    simp [tw]
  · rw [tw_length] at hj
    obtain ⟨i, hi | hi⟩ : ∃ i, j = 2 * i ∨ j = 2 * i + 1 := ⟨j / 2, by omega⟩
    · subst hi
      have h := ho.2 i (by omega)
      unfold OkAt
      rw [(tw_at ws i).1]
      refine ⟨h.1, h.2.1, fun hp => ⟨?_, fun h => (nomatch h)⟩⟩
      rw [show 2 * i - 1 = 2 * (i - 1) + 1 by omega, (tw_at ws (i - 1)).2]
      exact (h.2.2 (by omega)).1
    · subst hi
      have h := ho.2 i (by omega)
      unfold OkAt
      rw [(tw_at ws i).2]
      refine ⟨h.1, h.2.1, fun hp => ⟨?_, fun h => (nomatch h)⟩⟩
      rw [show 2 * i + 1 - 1 = 2 * i by omega, (tw_at ws i).1]
      exact ltB_self _
structure TwR (i : Nat) (x y : Ix) : Prop where
  K : y.K = x.K
  I : y.I = x.I.map fun z => 2 * z
  wd : y.wd = x.wd
  no : y.no = 2 * x.no
  cz : ∀ j, 2 * i ≤ j → y.cnt j = 0
  c : ∀ z ∈ x.I, y.cnt (2 * z.toNat) = 2 * x.cnt z.toNat + 1
theorem tw_rel {ws : List ByteArray} (ho : Ord ws false) : ∀ i, i ≤ ws.length → TwR i (ixF ws i) (ixF (tw ws) (2 * i))
  | 0, _ => ⟨rfl, rfl, rfl, rfl, fun _ _ => rfl, fun _ h => (nomatch h)⟩
  | i + 1, hi => by
    have ih := tw_rel ho i (by omega)
    have iv := ixF_inv ho i (by omega)
    have hok := ho.2 i (by omega)
    rw [show 2 * (i + 1) = 2 * i + 1 + 1 by omega]
    show TwR (i + 1) (stepI (ixF ws i) i (kAt ws i)) (stepI (stepI (ixF (tw ws) (2 * i)) (2 * i) (kAt (tw ws) (2 * i))) (2 * i + 1) (kAt (tw ws) (2 * i + 1)))
    rw [(tw_at ws i).1, (tw_at ws i).2]
    generalize ixF ws i = x at ih iv
    generalize ixF (tw ws) (2 * i) = y at ih
    unfold stepI
    by_cases e : kAt ws i = x.wd
    · have hi0 : 0 < i := by
        rcases Nat.eq_zero_or_pos i with h | h
        · exact absurd (e.trans (iv.zero h).1) (ne_empty hok.1)
        · exact h
      have hno := (iv.last hi0).2.2.2
      rw [if_pos e, if_pos (e.trans ih.wd.symm), if_pos (show kAt ws i = (bump y).wd from e.trans ih.wd.symm)]
      refine ⟨ih.K, ih.I, ih.wd, ih.no, fun j hj => ?_, fun z hz => ?_⟩
      · show (if j = y.no then (if j = y.no then y.cnt j + 1 else y.cnt j) + 1 else (if j = y.no then y.cnt j + 1 else y.cnt j)) = 0
        have := ih.no
        rw [if_neg (by omega), if_neg (by omega)]
        exact ih.cz j (by omega)
      · have h1 := ih.c z hz
        have h2 := (iv.ids z hz).1
        have h3 := ih.no
        show (if 2 * z.toNat = y.no then (if 2 * z.toNat = y.no then y.cnt (2 * z.toNat) + 1 else y.cnt (2 * z.toNat)) + 1 else (if 2 * z.toNat = y.no then y.cnt (2 * z.toNat) + 1 else y.cnt (2 * z.toNat))) = 2 * (if z.toNat = x.no then x.cnt z.toNat + 1 else x.cnt z.toNat) + 1
        by_cases hz2 : z.toNat = x.no
        · have hz3 : 2 * z.toNat = y.no := by omega
          simp only [if_pos hz2, if_pos hz3]
          omega
        · have hz3 : ¬ 2 * z.toNat = y.no := by omega
          simp only [if_neg hz2, if_neg hz3]
          omega
    · have e' : ¬ kAt ws i = y.wd := by rw [ih.wd]; exact e
      rw [if_neg e, if_neg e']
      simp only
      rw [if_pos trivial]
      refine ⟨by show y.K ++ _ = x.K ++ _; rw [ih.K], by show y.I ++ _ = (x.I ++ _).map _; rw [ih.I, List.map_append]; simp, rfl, rfl, fun j hj => ?_, fun z hz => ?_⟩
      · show (if j = 2 * i then y.cnt j + 1 else y.cnt j) = 0
        rw [if_neg (by omega)]
        exact ih.cz j (by omega)
      · show (if 2 * z.toNat = 2 * i then y.cnt (2 * z.toNat) + 1 else y.cnt (2 * z.toNat)) = 2 * x.cnt z.toNat + 1
        rcases List.mem_append.1 hz with hz | hz
        · have h2 := iv.ids z hz
          rw [if_neg (by omega)]
          exact ih.c z hz
        · rw [List.mem_singleton.1 hz]
          have h5 : 2 * (i : Int).toNat = 2 * i := by simp
          rw [if_pos h5, h5, ih.cz _ (Nat.le_refl _), show (i : Int).toNat = i by simp, iv.cz _ (Nat.le_refl _)]
theorem range_twice (a : Int) : ∀ m, (List.range (2 * m)).map (fun (k : Nat) => 2 * a + (k : Int)) = ((List.range m).map fun (k : Nat) => a + (k : Int)).flatMap fun z => [2 * z, 2 * z + 1]
  | 0 => rfl
  | m + 1 => by
    rw [show 2 * (m + 1) = 2 * m + 1 + 1 by omega, List.range_succ, List.range_succ, List.range_succ (n := m), List.map_append, List.map_append, List.map_append, List.flatMap_append, range_twice a m, List.append_assoc]
    congr 1
    simp
    omega
theorem rng_twice (a : Int) (n : Nat) : rng (2 * a) (2 * n + 1) = (rng a n).flatMap fun z => [2 * z, 2 * z + 1] := range_twice a (n + 1)
def mapK (f : Int → Int) (ks : Ks) : Ks := ks.map fun e => (e.1, f e.2)
theorem tails_mapK (f : Int → Int) (ch : Nat) : ∀ ks, tails ch (mapK f ks) = mapK f (tails ch ks)
  | [] => rfl
  | ([], _) :: r => by
    have := tails_mapK f ch r
    simpa [mapK, tails] using this
  | (c :: s, id) :: r => by
    have := tails_mapK f ch r
    unfold mapK at this ⊢
    rw [List.map_cons, tails, tails, this]
    split <;> simp
theorem firstE_mapK (f : Int → Int) : ∀ ks, firstE (mapK f ks) = (firstE ks).map f
  | [] => rfl
  | ([], id) :: r => by simp [mapK, firstE]
  | (c :: s, id) :: r => by
    have := firstE_mapK f r
    simpa [mapK, firstE] using this
theorem hits_mapK (f : Int → Int) : ∀ (s : List Nat) (ks : Ks) (i : Nat), hitsF (mapK f ks) s i = (hitsF ks s i).map fun h => (f h.1, h.2)
  | [], _, _ => rfl
  | a :: s, ks, i => by
    rw [hitsF, hitsF, tails_mapK, hits_mapK f s, List.map_append]
    congr 1
    unfold hitAt
    rw [firstE_mapK]
    cases firstE (tails a ks) <;> rfl
theorem hits_mem : ∀ (s : List Nat) (ks : Ks) (i : Nat) (h : Int × Int), h ∈ hitsF ks s i → ∃ p, (p, h.1) ∈ ks
  | [], _, _, _, hh => by cases hh
  | a :: s, ks, i, h, hh => by
    rw [hitsF] at hh
    rcases List.mem_append.1 hh with hh | hh
    · unfold hitAt at hh
      cases hf : firstE (tails a ks) with
      | none => rw [hf] at hh; cases hh
      | some id =>
        rw [hf] at hh
        rw [List.mem_singleton.1 hh]
        exact ⟨_, mem_tails.1 (firstE_some hf)⟩
    · obtain ⟨p, hp⟩ := hits_mem s _ _ h hh
      exact ⟨_, mem_tails.1 hp⟩
theorem ks_map (f : Int → Int) (hf : f 0 = 0) (K : List ByteArray) (I : List Int) : ksAll K (I.map f) = mapK f (ksAll K I) := by
  unfold ksAll ksOf mapK
  rw [List.map_map]
  apply List.map_congr_left
  intro j _
  simp only [Function.comp]
  congr 1
  unfold idAt
  by_cases h : j < I.length
  · simp [List.getD, h]
  · simp [List.getD, h, hf]
theorem mem_ids {K : List ByteArray} {I : List Int} (hl : I.length = K.length) {p : List Nat} {id : Int} (h : (p, id) ∈ ksAll K I) : id ∈ I := by
  obtain ⟨j, hj, he⟩ := List.mem_map.1 h
  have hj' : j < I.length := by rw [hl]; simpa using hj
  simp only [Prod.mk.injEq] at he
  rw [← he.2, idAt_eq hj']
  exact List.getElem_mem _
def twL (l : List Int) : List Int := l.flatMap fun z => [2 * z, 2 * z + 1]
/-- With each word twice each place is two ones. -/
theorem twice_ans {ws : List ByteArray} (ho : Ord ws false) (s : ByteArray) : (ansI (ixOf (tw ws)) s).2.1 = (ansI (ixOf ws) s).2.1 ∧ (ansI (ixOf (tw ws)) s).2.2.1 = (ansI (ixOf ws) s).2.2.1.map twL := by
  have hr := tw_rel ho ws.length (Nat.le_refl _)
  have hi := ixF_inv ho ws.length (Nat.le_refl _)
  have e : ixOf (tw ws) = ixF (tw ws) (2 * ws.length) := by unfold ixOf; rw [tw_length]
  rw [e]
  unfold ixOf
  generalize ixF ws ws.length = x at hr hi
  generalize ixF (tw ws) (2 * ws.length) = y at hr
  have hk : ksAll y.K y.I = mapK (fun z => 2 * z) (ksAll x.K x.I) := by rw [hr.K, hr.I, ks_map _ (by rfl)]
  unfold ansI
  simp only
  rw [hk, hits_mapK]
  refine ⟨by rw [List.map_map]; rfl, ?_⟩
  unfold listsF
  rw [List.map_map, List.map_map]
  apply List.map_congr_left
  intro h hh
  obtain ⟨p, hp⟩ := hits_mem _ _ _ _ hh
  have hm := mem_ids hi.len hp
  have h0 := (hi.ids _ hm).1
  simp only [Function.comp]
  rw [show (2 * h.1).toNat = 2 * h.1.toNat by omega, hr.c _ hm, rng_twice]
  rfl
theorem tw_K {ws : List ByteArray} (ho : Ord ws false) : (ixOf (tw ws)).K = (ixOf ws).K := by
  have e : ixOf (tw ws) = ixF (tw ws) (2 * ws.length) := by unfold ixOf; rw [tw_length]
  rw [e]
  exact (tw_rel ho ws.length (Nat.le_refl _)).K
theorem ixOf_sum {ws : List ByteArray} (ho : Ord ws false) : sumL (ixOf ws).K ≤ sumL ws := by
  have := (ixF_inv ho ws.length (Nat.le_refl _)).sum
  rwa [List.take_length] at this
end Go.Proofs.YteoljiclmhmbnaaDoor.Da

/-
  BuildWithIDs, Trie and TrieBytes where there are other numbers of identifiers than of keys; the walk of laws.FnTrieArg.
-/
set_option linter.unusedVariables false
set_option linter.unusedSimpArgs false
namespace Go.Proofs.YteoljiclmhmbnaaDoor.Da
open Go.RowKit Go.ChangeShapes Go.Proofs.YteoljiclmhmbnaaDoor.K Go.Proofs.YteoljiclmhmbnaaDoorW.PrintWords

theorem errNew_any (s : ByteArray) (w : World) : Calls Tryd.prog 65 #[.string s] w fun e w' => e = .returned (.iface 183 (.pointer (some ⟨w.heap.size, 0, none⟩))) ∧ Below w.heap.size w w' := by
  go_enter Tryd.func65, Tryd.ntmps65
  go_wp2
  go_ret
  exact ⟨by simp, (Below.refl _ _).alloc (Nat.le_refl _) _⟩
/-- An error is told. -/
def ErrRet (w : World) (e : Ending) (w' : World) : Prop := ∃ A n c p, e = .returned (.tuple #[.slice A n c, .iface 183 (.pointer p)]) ∧ Below w.heap.size w w'
set_option maxHeartbeats 2000000 in
set_option maxRecDepth 100000 in
theorem buildArg_any (A B : Option Addr) (n m ck ci : Nat) (w : World) (hne : n ≠ m) :
    Calls Tryd.prog 83 #[.slice A n ck, .slice B m ci] w (ErrRet w) := by
  go_enter Tryd.func83, Tryd.ntmps83
  go_wp2_with fail
  obtain ⟨w1, hw1⟩ : ∃ w1, w1 = (w.alloc (.cells #[] tEl)).alloc (.cells #[.slice (some ⟨w.heap.size, 0, none⟩) 0 0] tDA) := ⟨_, rfl⟩
  obtain ⟨dp, hdp⟩ : ∃ dp, dp = w.heap.size + 1 := ⟨_, rfl⟩
  have hd1 : w1.heap[dp]? = some (.cells #[.slice (some ⟨w.heap.size, 0, none⟩) 0 0] tDA (0, 0)) := by
    subst hw1 hdp
    have := heap_new (w.alloc (.cells #[] tEl)) (.cells #[.slice (some ⟨w.heap.size, 0, none⟩) 0 0] tDA)
    rw [size_alloc] at this
    exact this
  have hb1 : Below w.heap.size w w1 := by subst hw1; exact ((Below.refl _ _).alloc (Nat.le_refl _) _).alloc (by simp) _
  have hs1 : w1.heap.size = w.heap.size + 2 := by subst hw1; simp
  have HB1 := Lib.hid hb1
  have HS1 := Lib.hid hs1
  have HDP := Lib.hid hdp
  have HI := Lib.hid (init_any dp _ w1 hd1)
  rw [← hdp]
  refine (show Calls _ _ _ w1 _ → _ from fun h => by rw [← hw1]; exact h) ?_
  clear hw1 hdp hd1 hb1 hs1
  refine HI.out.mono ?_
  rintro e w2 ⟨rfl, g2, ha2, hg2, hk2⟩
  have HB2 : Hid (Below w.heap.size w w2) := Lib.hid (HB1.out.trans (hk2.below (by have := HDP.out; omega) (by have := HS1.out; omega) (by have := HS1.out; omega)))
  have hcd : w2.cell? ⟨dp, 0, none⟩ = some (.slice (some ⟨g2, 0, none⟩) 51200 51200) := by
    rw [cell_of_heap ha2.var]
    rfl
  clear ha2 hg2 hk2 HI
  have hn : ((n : Int) != (m : Int)) = true := by simp; omega
  go_upto_region 4 with fail
  refine Gd.WT_start (by as_aux_lemma => kernel_rfl) (by as_aux_lemma => kernel_rfl) (by as_aux_lemma => kernel_rfl) (fun _ _ _ _ h => h) ?_
  have HD := Lib.hid (show w2.drew.cell? ⟨dp, 0, none⟩ = some (.slice (some ⟨g2, 0, none⟩) 51200 51200) from hcd)
  have HBD := Lib.hid HB2.out.drew
  generalize w2.drew = wd at HD HBD ⊢
  clear hcd
  refine ⟨(fun w' : World => w'.cell? ⟨dp, 0, none⟩ = some (.slice (some ⟨g2, 0, none⟩) 51200 51200) ∧ Below w.heap.size w w'), ⟨HD.out, HBD.out⟩, fun hHeld => ?_⟩
  refine Gd.WT_take 0 (v := ?_) (by simp only [List.getElem?_toArray, List.getElem?_cons_succ, List.getElem?_cons_zero]; rfl) (Or.inl ⟨by rfl, ?_⟩) (by assumption) ?_
  rotate_left
  · ((intro w hSw; (try dsimp only at hSw); go_simp); (try with_reducible rfl))
  try simp only [Act.put, List.foldl_cons, List.foldl_nil, List.setIfInBounds_toArray, List.set_cons_zero, List.set_cons_succ]
  refine Gd.WT_call 1 (by simp only [List.getElem?_toArray, List.getElem?_cons_succ, List.getElem?_cons_zero]; rfl) (by as_aux_lemma => kernel_rfl) (fun K hK => ?_)
  go_simp
  (go_at_call 65; with_reducible refine (errNew_any _ wd).mono ?_)
  rintro e w3 ⟨rfl, hb3⟩
  have HD3 := Lib.hid ((hb3.cell (World.block_lt_of_cell? wd _ HD.out)).trans HD.out)
  have HB3 := Lib.hid (HBD.out.trans (hb3.mono HBD.out.size))
  clear hb3
  go_simp
  refine hK.out _ _ ?_ (fun hHeld => ?_)
  · exact ⟨HD3.out, HB3.out⟩
  clear hK K
  try simp only [Act.put, List.foldl_cons, List.foldl_nil, List.setIfInBounds_toArray, List.set_cons_zero, List.set_cons_succ]
  refine Gd.WT_take 2 (v := ?_) (by simp only [List.getElem?_toArray, List.getElem?_cons_succ, List.getElem?_cons_zero]; rfl) (Or.inl ⟨by rfl, ?_⟩) (by assumption) ?_
  rotate_left
  · ((intro w hSw; (try dsimp only at hSw); go_simp); (try with_reducible rfl))
  try simp only [Act.put, List.foldl_cons, List.foldl_nil, List.setIfInBounds_toArray, List.set_cons_zero, List.set_cons_succ]
  refine Gd.WT_take 3 (v := ?_) (by simp only [List.getElem?_toArray, List.getElem?_cons_succ, List.getElem?_cons_zero]; rfl) (Or.inl ⟨by rfl, ?_⟩) (by assumption) ?_
  rotate_left
  · ((intro w hSw; (try dsimp only at hSw); go_simp); (try with_reducible rfl))
  try simp only [Act.put, List.foldl_cons, List.foldl_nil, List.setIfInBounds_toArray, List.set_cons_zero, List.set_cons_succ]
  refine Gd.WT_end (by exact Nat.le_refl 4) ?_
  go_wp2_with fail
  go_ret2
  exact ⟨_, _, _, _, rfl, HB3.out⟩
/-- The argument is refused. -/
def Refused (w : World) (e : Ending) (w' : World) : Prop := e = .returned (.tuple #[.slice none 0 0, .int .i64 1]) ∧ Below w.heap.size w w'
end Go.Proofs.YteoljiclmhmbnaaDoor.Da

/-
  The walks of IndexTable.Search and IndexTable.CommonPrefixSearch.
-/
set_option linter.unusedVariables false
set_option linter.unusedSimpArgs false
namespace Go.Proofs.YteoljiclmhmbnaaDoor.Da
open Go.RowKit Go.ChangeShapes Go.Proofs.YteoljiclmhmbnaaDoor.K Go.Proofs.YteoljiclmhmbnaaDoorW.PrintWords Go.Maps

abbrev tI32 : Nat := 21
abbrev tMp : Nat := 89
abbrev tIdx : Nat := 91
theorem lawI : Keyed Tryd.prog tI32 := int_keyed Tryd.underlying21
theorem zeroI32 (w : World) : (zeroValue tI32).run Tryd.prog w = .ok (.int .i32 0) w := by kernel_rfl
theorem wf_i32 {z : Int} (h1 : 0 ≤ z) (h2 : z ≤ 2147483647) : (Lit.int .i32 z).wf = true := by
  simp only [Lit.wf, IntKind.min, IntKind.max, IntKind.signed, IntKind.bits, Bool.and_eq_true, decide_eq_true_eq]
  simp
  omega
/-- A map that tells how often a key stands besides. -/
def DupD (D : DataW Unit) (cnt : Nat → Nat) : Prop := ∀ j : Nat, j ≤ 2147483647 → D.atKey (.int .i32 (j : Int)) (.lit (.int .i32 0)) = .lit (.int .i32 (cnt j : Int))
def Dup (bm : Nat) (cnt : Nat → Nat) (w : World) : Prop := ∃ n D, n ≤ 2147483647 ∧ w.ownsMap Tryd.prog tI32 (plainElem Tryd.prog tI32) bm n D ∧ DupD D cnt
theorem Dup.keep {bm : Nat} {cnt : Nat → Nat} {w w' : World} (h : Dup bm cnt w) (hb : w'.heap[bm]? = w.heap[bm]?) : Dup bm cnt w' := by
  obtain ⟨n, D, hn, ⟨es, clock, h1, r⟩, hD⟩ := h
  exact ⟨n, D, hn, ⟨es, clock, hb.trans h1, r⟩, hD⟩
theorem Dup.lt {bm : Nat} {cnt : Nat → Nat} {w : World} (h : Dup bm cnt w) : bm < w.heap.size := by
  obtain ⟨n, D, hn, ⟨es, clock, h1, r⟩, hD⟩ := h
  exact lt_of_heap h1
theorem Dup.below {bm : Nat} {cnt : Nat → Nat} {w w' : World} (h : Dup bm cnt w) (hb : Below w.heap.size w w') : Dup bm cnt w' := h.keep (hb.block bm h.lt)
theorem Dup.drewN {bm : Nat} {cnt : Nat → Nat} {w : World} (h : Dup bm cnt w) (n : Nat) : Dup bm cnt (w.drewN n) := h.keep rfl
theorem dup_val {D : DataW Unit} {cnt : Nat → Nat} (h : DupD D cnt) {j : Nat} (hj : j ≤ 2147483647) {c : Int} (hat : D.atKey (.int .i32 (j : Int)) (.lit (.int .i32 0)) = .lit (.int .i32 c)) : c = cnt j := by
  rw [h j hj] at hat
  injection hat with h1
  injection h1 with _ h2
  exact h2.symm

/-- A row of the places of a key, k of them laid. -/
def fillR (a : Int) (N k : Nat) : Array Value := Array.ofFn (n := N) fun i => .int .i64 (if i.1 < k then a + (i.1 : Int) else 0)
theorem fillR_zero (a : Int) (N : Nat) : madeCells #[.int .i64 0] N = fillR a N 0 := by
  apply Array.ext
  · simp [fillR, size_madeCells]
  · intro j h1 h2
    simp [madeCells, fillR, Nat.mod_one]
theorem fillR_set {a : Int} {N k : Nat} (h : k < N) : (fillR a N k).setIfInBounds k (.int .i64 (a + (k : Int))) = fillR a N (k + 1) := by
  apply Array.ext
  · simp [fillR]
  · intro j h1 h2
    have h3 : j < N := by simpa [fillR] using h2
    rw [Array.getElem_setIfInBounds (by simpa [fillR] using h3)]
    simp only [fillR, Array.getElem_ofFn]
    by_cases e : k = j
    · subst e; simp
    · rw [if_neg e]
      by_cases e2 : j < k
      · simp [e2, show j < k + 1 by omega]
      · simp [e2, show ¬ j < k + 1 by omega]
theorem fillR_all (a : Int) (N : Nat) : (fillR a (N + 1) (N + 1)).toList = (rng a N).map (Value.int .i64) := by
  apply List.ext_getElem
  · simp [fillR, rng]
  · intro i h1 h2
    simp only [fillR, Array.getElem_toList, Array.getElem_ofFn, rng, List.getElem_map, List.getElem_range]
    rw [if_pos (by simpa [fillR] using h1)]
theorem fillR_own {w : World} {base g : Nat} {a : Int} {N : Nat} (hg : w.heap[g]? = some (.cells (fillR a (N + 1) (N + 1)) tInt (0, 0))) (hb : base ≤ g) (hN : N + 1 ≤ maxLen) : OwnI base (.slice (some ⟨g, 0, none⟩) (N + 1) (N + 1)) (rng a N) w := by
  refine ⟨by simp, .inr ⟨g, N + 1, _, by simp [rng_length], hb, hg, by simp [rng_length], hN, by simp [fillR], ?_⟩⟩
  rw [List.length_map, rng_length, ← fillR_all, Nat.mul_one, List.take_of_length_le (by simp [fillR])]
theorem make_ints (N : Nat) (hN : N ≤ 2147483647) (W : World) : (Instr.makeSlice 37 (.int .i32 N) (.int .i32 N)).run Tryd.prog W = .ok (.slice (some ⟨W.heap.size, 0, none⟩) N N) (W.alloc (.cells (madeCells #[.int .i64 0] N) tInt)) :=
  run_make_row' (P := Tryd.prog) 37 3 (.int .i64 0) 8 Tryd.underlying37 (by kernel_rfl) rfl .i32 .i32 N (by omega) (by omega) W

set_option maxHeartbeats 1000000 in
set_option maxRecDepth 100000 in
theorem ixSearch_any (g : Nat) (A : DA) (ks : Ks) (bm : Nat) (cnt : Nat → Nat) (s : ByteArray) (w : World) (ht : Trie g A ks w) (hid : ∀ x ∈ ks, 0 ≤ x.2) (hcl : ∀ a ∈ bl s, 1 ≤ a) (hs : s.size ≤ 2147483647) (hd : Dup bm cnt w)
    (hb : ∃ j : Nat, (findF ks (bl s)).1 = (j : Int) ∧ j + cnt j ≤ 2147483640) :
    Calls Tryd.prog 68 #[.agg #[.slice (some ⟨g, 0, none⟩) A.n A.n, .map (some bm)], .string s] w fun e w' => ∃ v, e = .returned v ∧ OwnI w.heap.size v (idsF cnt (findF ks (bl s))) w' ∧ Below w.heap.size w w' := by
  obtain ⟨bo, hbo⟩ : ∃ bo, bo = w.heap.size := ⟨_, rfl⟩
  obtain ⟨w1, hw1⟩ : ∃ w1, w1 = w.alloc (.cells #[.slice (some ⟨g, 0, none⟩) A.n A.n, .map (some bm)] tIdx) := ⟨_, rfl⟩
  have hb1 : Below w.heap.size w w1 := by rw [hw1]; exact (Below.refl _ _).alloc (Nat.le_refl _) _
  have hx1 : w1.heap[bo]? = some (.cells #[.slice (some ⟨g, 0, none⟩) A.n A.n, .map (some bm)] tIdx (0, 0)) := by rw [hw1, hbo]; exact heap_new _ _
  have HF := Lib.hid (find_any g A ks s w1 (ht.below hb1) hid hcl hs)
  have HD1 := Lib.hid (hd.below hb1)
  have HB1 := Lib.hid hb1
  have HX1 := Lib.hid hx1
  have hc0 : w1.cell? ⟨bo, 0, none⟩ = some (.slice (some ⟨g, 0, none⟩) A.n A.n) := by rw [cell_of_heap hx1]; rfl
  have HBO := Lib.hid hbo
  obtain ⟨j, hj, hjc⟩ := hb
  clear ht hid hcl hs hd hb1 hx1
  go_enter Tryd.func68, Tryd.ntmps68
  go_upto_region 1 with fail
  rw [← hbo, ← hw1]
  clear hw1 hbo
  go_wp2_with fail
  refine HF.out.mono ?_
  rintro e w2 ⟨rfl, hb2⟩
  have hx2 := (hb2.block bo (lt_of_heap HX1.out)).trans HX1.out
  have HD2 := Lib.hid (HD1.out.below hb2)
  have HB2 := Lib.hid (HB1.out.trans (hb2.mono HB1.out.size))
  have hc1 : w2.cell? ⟨bo, 1, none⟩ = some (.map (some bm)) := by rw [cell_of_heap hx2]; rfl
  have HX2 := Lib.hid hx2
  clear hc0 hb2 hx2 HF HD1 HB1 HX1
  have HFE := Lib.hid (rfl : findF ks (bl s) = findF ks (bl s))
  generalize hfe : findF ks (bl s) = f at hj HFE ⊢
  obtain ⟨f1, f2⟩ := f
  simp only at hj
  subst hj
  clear HFE
  have HFE := Lib.hid hfe
  clear hfe
  cases f2 with
  | false =>
    go_wp2_with fail
    go_ret
    exact ⟨.slice none 0 0, rfl, by rw [HFE.out]; exact World.ownsRow_nil _ _ _ _, HB2.out⟩
  | true =>
    obtain ⟨n, D, hn, hown, hD⟩ := HD2.out
    have HOWN := Lib.hid hown
    have HDD := Lib.hid hD
    have HKEY : Hid (keyOf Tryd.prog tI32 (.int .i32 (j : Int)) = some (.int .i32 (j : Int))) := Lib.hid (keyOf_int_mk Tryd.underlying21 (wf_i32 (by omega) (by omega)))
    have hj32 : IntKind.i32.wrap (j : Int) = j := IntWalk.i32_in _ (by omega)
    clear hown hD
    go_upto_region 5 with (at_lookup; refine wpList_lookup_own_int _ rfl _ _ tMp rfl tI32 tI32 .i32 lawI Tryd.underlying89 Tryd.underlying21 (zeroI32 _) bm n D rfl HOWN.out _ _ rfl HKEY.out ?_; intro c hat hwc; obtain rfl := dup_val HDD.out (by omega) hat; clear hat hwc)
    obtain ⟨N, hN⟩ : ∃ N, N = cnt j := ⟨_, rfl⟩
    rw [← hN] at hjc ⊢
    have HN := Lib.hid hN
    have hmk : ∀ W, (Instr.makeSlice 37 (.int .i32 (1 + (N : Int))) (.int .i32 (1 + (N : Int)))).run Tryd.prog W = .ok (.slice (some ⟨W.heap.size, 0, none⟩) (N + 1) (N + 1)) (W.alloc (.cells (fillR (j : Int) (N + 1) 0) tInt)) := fun W => by
      rw [← fillR_zero, show (1 : Int) + (N : Int) = ((N + 1 : Nat) : Int) by omega]
      exact make_ints (N + 1) (by omega) W
    clear hN
    go_upto_region 6 with fail
    obtain ⟨lb, hlb⟩ : ∃ lb, lb = w2.heap.size := ⟨_, rfl⟩
    obtain ⟨w3, hw3⟩ : ∃ w3, w3 = w2.alloc (.cells (fillR (j : Int) (N + 1) 0) tInt) := ⟨_, rfl⟩
    have h3 : w3.heap[lb]? = some (.cells (fillR (j : Int) (N + 1) 0) tInt (0, 0)) := by rw [hw3, hlb]; exact heap_new _ _
    have H3 := Lib.hid h3
    have HB3 : Hid (Below w.heap.size w w3) := Lib.hid (by rw [hw3]; exact HB2.out.alloc HB2.out.size _)
    have HLB : Hid (w.heap.size ≤ lb) := Lib.hid (by rw [hlb]; exact HB2.out.size)
    rw [← hw3, ← hlb]
    clear hw3 hlb h3 hc1 hmk HOWN HDD HKEY HB2 HX2 HD2
    go_upto_region 7 with fail
    go_loopw [9] (fun iv wr => ∃ k : Nat, k ≤ N + 1 ∧ iv = .int .i64 k ∧ Hid (wr.heap[lb]? = some (.cells (fillR (j : Int) (N + 1) k) tInt (0, 0))) ∧ Hid (Below w.heap.size w wr)) (fun iv _ => N + 1 - (intOf iv).toNat)
    case atStart => exact ⟨0, Nat.zero_le _, rfl, H3, HB3⟩
    case round =>
      obtain ⟨k, hk, rfl, HL, HB⟩ := hrel
      by_cases hlt : k < N + 1
      · have hfz : wr.frozen? ⟨lb, k, none⟩ = false := frozen_of_heap HL.out k
        have hcl : ∃ u, wr.cell? ⟨lb, k, none⟩ = some u := ⟨_, by rw [cell_of_heap HL.out]; exact Array.getElem?_eq_getElem (by simpa [fillR] using hlt)⟩
        obtain ⟨u, hcl⟩ := hcl
        have HL2 : Hid ((wr.setCell ⟨lb, k, none⟩ (.int .i64 ((j : Int) + (k : Int)))).heap[lb]? = some (.cells (fillR (j : Int) (N + 1) (k + 1)) tInt (0, 0))) := Lib.hid (by rw [heap_set HL.out, fillR_set hlt])
        have HB2' : Hid (Below w.heap.size w (wr.setCell ⟨lb, k, none⟩ (.int .i64 ((j : Int) + (k : Int))))) := Lib.hid (HB.out.setCell (p := ⟨lb, k, none⟩) HLB.out _)
        go_wp2_with fail
        exact ⟨⟨k + 1, by omega, by go_num, HL2, HB2'⟩, by simp [intOf]; omega⟩
      · obtain rfl : k = N + 1 := by omega
        have h4 := fillR_own (base := w.heap.size) HL.out HLB.out (by unfold maxLen; omega)
        go_wp2_with fail
        go_ret
        exact ⟨_, rfl, by rw [HFE.out]; show OwnI _ _ (if true = true then rng _ (cnt (Int.toNat _)) else []) _; rw [if_pos rfl, Int.toNat_natCast, ← HN.out]; exact h4, HB.out⟩

abbrev tSl : Nat := 37
def kRows : Kd (List Int) := Kd.slice tInt (Kd.int .i64)
theorem infoSl : (Tryd.prog.info? tSl).map (fun i => (i.zero, i.size, i.bytes)) = some (some (.slice none 0 0), kRows.sz, 24) := by
  show _ = some (some (Value.slice none 0 0), 1, 24)
  kernel_rfl
theorem own_R {base : Nat} {v : Value} {xs : List Int} {w : World} {ok : Nat → Prop} (h : OwnI base v xs w) (hok : ∀ k, base ≤ k → ok k) : (Kd.int .i64).R tInt w base ok v xs := by
  have h1 : w.ownsRow base tInt 1 v xs.length (encs (Value.int .i64) xs) := by
    have h2 := h
    unfold OwnI at h2
    rw [List.length_map] at h2
    exact h2
  exact Kd.R_of_own h1 (fun k hk => hok k (own_base h1 k hk))
set_option maxHeartbeats 1000000 in
set_option maxRecDepth 100000 in
theorem ixCommon_any (g : Nat) (A : DA) (ks : Ks) (bm : Nat) (cnt : Nat → Nat) (s : ByteArray) (w : World) (ht : Trie g A ks w) (hid : ∀ x ∈ ks, 0 ≤ x.2) (hcl : ∀ a ∈ bl s, 1 ≤ a) (hs : s.size ≤ 2147483647) (hd : Dup bm cnt w)
    (hb : ∀ h ∈ hitsF ks (bl s) 0, ∃ j : Nat, h.1 = (j : Int) ∧ j + cnt j ≤ 2147483640) :
    Calls Tryd.prog 69 #[.agg #[.slice (some ⟨g, 0, none⟩) A.n A.n, .map (some bm)], .string s] w fun e w' => ∃ v1 v2, e = .returned (.tuple #[v1, v2]) ∧ OwnI w.heap.size v1 ((hitsF ks (bl s) 0).map (·.2)) w' ∧ kRows.R tSl w' w.heap.size (fun _ => True) v2 (listsF cnt (hitsF ks (bl s) 0)) ∧ Below w.heap.size w w' := by
  obtain ⟨bo, hbo⟩ : ∃ bo, bo = w.heap.size := ⟨_, rfl⟩
  obtain ⟨w1, hw1⟩ : ∃ w1, w1 = w.alloc (.cells #[.slice (some ⟨g, 0, none⟩) A.n A.n, .map (some bm)] tIdx) := ⟨_, rfl⟩
  have hb1 : Below w.heap.size w w1 := by rw [hw1]; exact (Below.refl _ _).alloc (Nat.le_refl _) _
  have hx1 : w1.heap[bo]? = some (.cells #[.slice (some ⟨g, 0, none⟩) A.n A.n, .map (some bm)] tIdx (0, 0)) := by rw [hw1, hbo]; exact heap_new _ _
  have HF := Lib.hid (common_any g A ks s w1 (ht.below hb1) hid hcl hs)
  have HD1 := Lib.hid (hd.below hb1)
  have HB1 := Lib.hid hb1
  have HX1 := Lib.hid hx1
  have hc0 : w1.cell? ⟨bo, 0, none⟩ = some (.slice (some ⟨g, 0, none⟩) A.n A.n) := by rw [cell_of_heap hx1]; rfl
  have HBO := Lib.hid hbo
  have HJ := Lib.hid hb
  have hHl := hitsF_length ks (bl s) 0
  rw [bl_length] at hHl
  clear ht hid hcl hd hb1 hx1 hb
  go_enter Tryd.func69, Tryd.ntmps69
  go_upto_region 1 with fail
  rw [← hbo, ← hw1]
  clear hw1 hbo
  go_wp2_with fail
  refine HF.out.mono ?_
  generalize hH : hitsF ks (bl s) 0 = H at HJ hHl ⊢
  rintro e w2 ⟨v1, v2, rfl, ho1, ho2, hb2⟩
  have hx2 := (hb2.block bo (lt_of_heap HX1.out)).trans HX1.out
  have HD2 := Lib.hid (HD1.out.below hb2)
  have HB2 := Lib.hid (HB1.out.trans (hb2.mono HB1.out.size))
  have HX2 := Lib.hid hx2
  have h1len : (H.map (·.1)).length = H.length := by rw [List.length_map]
  obtain ⟨A1, c1, rfl, hC1⟩ := ho1.reads (n := H.length) (by rw [List.length_map])
  obtain ⟨A2, c2, rfl, hC2⟩ := ho2.reads (n := H.length) (by rw [List.length_map])
  have HC1 := Lib.hid hC1
  have HO2 : Hid (OwnI w.heap.size (.slice A2 H.length c2) (H.map (·.2)) w2) := Lib.hid (by have := ho2; exact ⟨this.1, this.2.imp id (fun ⟨a, b, c, h1, h2, h3⟩ => ⟨a, b, c, h1, Nat.le_trans HB1.out.size h2, h3⟩)⟩)
  have HH := Lib.hid hH
  clear hc0 hb2 hx2 HF HD1 HB1 HX1 ho1 ho2 hC1 hC2 hH
  go_upto_region 3 with fail
  go_loopw [5, 8, 9, 10, 11, 21] (fun rv _ _ _ _ jv wr => ∃ k : Nat, k ≤ H.length ∧ jv = .int .i64 k ∧ Hid (kRows.R tSl wr w2.heap.size (fun _ => True) rv (listsF cnt (H.take k))) ∧ Hid (Below w2.heap.size w2 wr)) (fun _ _ _ _ _ jv _ => H.length - (intOf jv).toNat)
  case atStart => exact ⟨0, Nat.zero_le _, rfl, Lib.hid (Kd.R_nil _ _ _ _ _), Lib.hid (Below.refl _ _)⟩
  case round =>
    obtain ⟨k, hk, rfl, HR, HB⟩ := hrel
    by_cases hlt : k < H.length
    · have hl1 : k < (H.map (·.1)).length := by rw [List.length_map]; exact hlt
      obtain ⟨ad1, rfl, hx1⟩ := ints_at HC1.out k hl1
      have hy1 := (HB.out.cell (World.block_lt_of_cell? w2 _ hx1)).trans hx1
      rw [List.getElem_map] at hy1
      obtain ⟨j, hj, hjc⟩ := HJ.out H[k] (List.getElem_mem hlt)
      rw [hj] at hy1
      obtain ⟨N, hN⟩ : ∃ N, N = cnt j := ⟨_, rfl⟩
      have HTK : Hid (listsF cnt (H.take (k + 1)) = listsF cnt (H.take k) ++ [rng (j : Int) N]) := Lib.hid (by rw [List.take_succ_eq_append_getElem hlt, listsF, listsF, List.map_append, hN]; simp [hj])
      have hxr := (HB.out.block bo (lt_of_heap HX2.out)).trans HX2.out
      have hc1 : wr.cell? ⟨bo, 1, none⟩ = some (.map (some bm)) := by rw [cell_of_heap hxr]; rfl
      obtain ⟨n, D, hn, hown, hD⟩ := HD2.out.below HB.out
      have HOWN := Lib.hid hown
      have HDD := Lib.hid hD
      have HKEY : Hid (keyOf Tryd.prog tI32 (.int .i32 (j : Int)) = some (.int .i32 (j : Int))) := Lib.hid (keyOf_int_mk Tryd.underlying21 (wf_i32 (by omega) (by omega)))
      have hj32 : IntKind.i32.wrap (j : Int) = j := IntWalk.i32_in _ (by omega)
      rw [← hN] at hjc
      have HN := Lib.hid hN
      have hmk : ∀ W, (Instr.makeSlice 37 (.int .i32 (1 + (N : Int))) (.int .i32 (1 + (N : Int)))).run Tryd.prog W = .ok (.slice (some ⟨W.heap.size, 0, none⟩) (N + 1) (N + 1)) (W.alloc (.cells (fillR (j : Int) (N + 1) 0) tInt)) := fun W => by
        rw [← fillR_zero, show (1 : Int) + (N : Int) = ((N + 1 : Nat) : Int) by omega]
        exact make_ints (N + 1) (by omega) W
      have hli : (k : Int) < (H.length : Int) := by omega
      obtain ⟨wo, rfl⟩ : ∃ wo, wo = wr := ⟨_, rfl⟩
      clear hl1 hx1 hj hxr hown hD hN
      go_upto_region 6 with (at_lookup; refine wpList_lookup_own_int _ rfl _ _ tMp rfl tI32 tI32 .i32 lawI Tryd.underlying89 Tryd.underlying21 (zeroI32 _) bm n D rfl HOWN.out _ _ rfl HKEY.out ?_; intro c hat hwc; obtain rfl := (dup_val HDD.out (by omega) hat).trans (by rw [← HN.out]); clear hat hwc)
      go_upto_region 7 with fail
      obtain ⟨lb, hlb⟩ : ∃ lb, lb = wo.heap.size := ⟨_, rfl⟩
      obtain ⟨w3, hw3⟩ : ∃ w3, w3 = wo.alloc (.cells (fillR (j : Int) (N + 1) 0) tInt) := ⟨_, rfl⟩
      have h3 : w3.heap[lb]? = some (.cells (fillR (j : Int) (N + 1) 0) tInt (0, 0)) := by rw [hw3, hlb]; exact heap_new _ _
      have H3 := Lib.hid h3
      have HB3 : Hid (Below wo.heap.size wo w3) := Lib.hid (by rw [hw3]; exact (Below.refl _ _).alloc (Nat.le_refl _) _)
      have HLB : Hid (wo.heap.size ≤ lb) := Lib.hid (by rw [hlb]; exact Nat.le_refl _)
      rw [← hw3, ← hlb]
      clear hw3 hlb h3 hc1 hmk HOWN HDD HKEY
      go_upto_region 8 with fail
      go_loopw [11] (fun iv wr => ∃ i : Nat, i ≤ N + 1 ∧ iv = .int .i64 i ∧ Hid (wr.heap[lb]? = some (.cells (fillR (j : Int) (N + 1) i) tInt (0, 0))) ∧ Hid (Below wo.heap.size wo wr)) (fun iv _ => N + 1 - (intOf iv).toNat)
      case atStart => exact ⟨0, Nat.zero_le _, rfl, H3, HB3⟩
      case round =>
        obtain ⟨i, hi, rfl, HL, HBi⟩ := hrel
        by_cases hilt : i < N + 1
        · have hfz : wr.frozen? ⟨lb, i, none⟩ = false := frozen_of_heap HL.out i
          have hcl : ∃ u, wr.cell? ⟨lb, i, none⟩ = some u := ⟨_, by rw [cell_of_heap HL.out]; exact Array.getElem?_eq_getElem (by simpa [fillR] using hilt)⟩
          obtain ⟨u, hcl⟩ := hcl
          have HL2 : Hid ((wr.setCell ⟨lb, i, none⟩ (.int .i64 ((j : Int) + (i : Int)))).heap[lb]? = some (.cells (fillR (j : Int) (N + 1) (i + 1)) tInt (0, 0))) := Lib.hid (by rw [heap_set HL.out, fillR_set hilt])
          have HB2' : Hid (Below wo.heap.size wo (wr.setCell ⟨lb, i, none⟩ (.int .i64 ((j : Int) + (i : Int))))) := Lib.hid (HBi.out.setCell (p := ⟨lb, i, none⟩) HLB.out _)
          go_wp2_with fail
          exact ⟨⟨i + 1, by omega, by go_num, HL2, HB2'⟩, by simp [intOf]; omega⟩
        · obtain rfl : i = N + 1 := by omega
          have h4 := fillR_own (base := wo.heap.size) HL.out HLB.out (by unfold maxLen; omega)
          have HRi := Lib.hid (Kd.R_below HR.out HBi.out)
          have HBt := Lib.hid (HB.out.trans (HBi.out.mono HB.out.size))
          have HM : Hid (∀ o : Obj, kRows.M (wr.alloc o) w2.heap.size (fun q => wo.heap.size ≤ q) (rng (j : Int) N) [.slice (some ⟨lb, 0, none⟩) (N + 1) (N + 1)]) := Lib.hid (fun o => ⟨_, rfl, Kd.R_alloc (Kd.R_lower (own_R h4 (fun _ h => h)) HB.out.size) o⟩)
          have HV : Hid (∀ q, wo.heap.size ≤ q → some q ≠ u5.ownBlock) := Lib.hid (fun q hq e => by have := Kd.R_lt HR.out q e.symm; omega)
          clear h4
          go_upto_region 12 with (at_builtin; refine kapp (w0 := w2) kRows w2.heap.size rfl _ _ 75 tSl (.slice none 0 0) 24 rfl Tryd.underlying75 infoSl rfl (by decide) (by decide) _ (listsF cnt (H.take k)) (rng (j : Int) N) [.slice (some ⟨lb, 0, none⟩) (N + 1) (N + 1)] (fun _ => True) (fun q => wo.heap.size ≤ q) wr.heap.size rfl rfl ?hg (HM.out _) (fun q hq => ⟨trivial, HV.out q hq⟩) (fun _ _ => trivial) (Kd.R_alloc HRi.out _) (HBt.out.alloc HBt.out.size _) (by have := HBt.out.size; simp; omega) ?hl ?_)
          case hg =>
            intro q u hq
            rw [cell_of_heap (heap_new wr _)]
            simpa using hq
          case hl => simp [listsF]; omega
          intro v5 w5 hr5 hb5 hg5 hat5
          have HX1 : Hid (kRows.R tSl w5 w2.heap.size (fun _ => True) v5 (listsF cnt (H.take (k + 1)))) := Lib.hid (by rw [HTK.out]; exact hr5)
          have HX3 := Lib.hid hb5
          clear hr5 hb5 hg5 hat5
          go_wp2_with fail
          exact ⟨⟨k + 1, by omega, by go_num, HX1, HX3⟩, by simp [intOf]; omega⟩
    · obtain rfl : k = H.length := by omega
      have hr := HR.out
      rw [List.take_length] at hr
      have HR2 := Lib.hid (Kd.R_lower hr HB2.out.size)
      have HO3 := Lib.hid (HO2.out.below HB.out)
      have HB3 := Lib.hid (HB2.out.trans (HB.out.mono HB2.out.size))
      clear hr
      go_wp2_with fail
      go_ret2
      exact ⟨_, _, rfl, by rw [HH.out]; exact HO3.out, by rw [HH.out]; exact HR2.out, HB3.out⟩
end Go.Proofs.YteoljiclmhmbnaaDoor.Da

/-
  The walks of the closures that an index is asked by, and of IndexTable.CommonPrefixSearchCallback.
-/
set_option linter.unusedVariables false
set_option linter.unusedSimpArgs false
namespace Go.Proofs.YteoljiclmhmbnaaDoor.Da
open Go.RowKit Go.ChangeShapes Go.Proofs.YteoljiclmhmbnaaDoor.K Go.Proofs.YteoljiclmhmbnaaDoorW.PrintWords Go.Maps

abbrev tIAns : Nat := 78
abbrev tFn : Nat := 160
/-- An answer in memory, its calls v. -/
def IAt (ab : Nat) (a0 a1 a2 v : Value) (w : World) : Prop := w.heap[ab]? = some (.cells #[a0, a1, a2, v] tIAns (0, 0))
theorem callsF_append (cnt : Nat → Nat) (H K : List (Int × Int)) : callsF cnt (H ++ K) = callsF cnt H ++ callsF cnt K := by simp [callsF]
theorem callsF_length {cnt : Nat → Nat} {H : List (Int × Int)} (h : ∀ x ∈ H, cnt x.1.toNat ≤ 100000) : (callsF cnt H).length ≤ H.length * 100001 := by
  induction H with
  | nil => simp [callsF]
  | cons x H ih =>
    have h1 := ih (fun y hy => h y (by simp [hy]))
    have h2 := h x (by simp)
    have e : callsF cnt (x :: H) = (rng x.1 (cnt x.1.toNat)).map (fun i => (i, x.2)) ++ callsF cnt H := by simp [callsF]
    rw [e, List.length_append, List.length_map, rng_length, List.length_cons]
    omega
set_option maxHeartbeats 1000000 in
set_option maxRecDepth 100000 in
theorem iclosure_any (ab : Nat) (a0 a1 a2 v : Value) (H : List Hit) (id l : Int) (w0 w : World) (hA : IAt ab a0 a1 a2 v w) (hR : kHit.R tHit w w0.heap.size (fun _ => True) v H) (hk : Kp ab ab w0 w) (hab : ab < w0.heap.size) (hl : H.length ≤ 8796093022000) :
    Calls Tryd.prog 71 #[.int .i64 id, .int .i64 l, .pointer (some ⟨ab, 0, none⟩)] w fun e w' => e = .returned (.tuple #[]) ∧ ∃ v', IAt ab a0 a1 a2 v' w' ∧ kHit.R tHit w' w0.heap.size (fun _ => True) v' (H ++ [(id, l)]) ∧ Kp ab ab w0 w' := by
  have hc5 : w.cell? ⟨ab, 3, none⟩ = some v := by rw [cell_of_heap hA]; rfl
  obtain ⟨w1, hw1⟩ : ∃ w1, w1 = w.alloc (.cells #[.int .i64 id, .int .i64 l] tHit) := ⟨_, rfl⟩
  obtain ⟨Av, cv, rfl⟩ := Kd.R_slice hR
  have HA := Lib.hid hA
  have HR := Lib.hid hR
  have HK := Lib.hid hk
  clear hA hR hk
  go_enter Tryd.func71, Tryd.ntmps71
  go_wp2_with (at_builtin; refine kapp (w0 := w) kHit w0.heap.size rfl _ _ 76 tHit (.agg #[.int .i64 0, .int .i64 0]) 16 rfl Tryd.underlying76 infoHit rfl (by decide) (by decide) _ H (id, l) [.int .i64 id, .int .i64 l] (fun _ => True) (fun _ => False) w.heap.size rfl rfl ?hg (hit_M _ _ _ _) (fun _ hk => hk.elim) (fun _ _ => trivial) (Kd.R_alloc HR.out _) ((Below.refl _ _).alloc HK.out.size _) (by have := HK.out.size; simp; omega) (by omega) ?_)
  case hg =>
    intro j u hj
    rw [cell_of_heap (heap_new w _)]
    simpa using hj
  intro v1 w2 ho hb hg hat
  obtain ⟨Av1, cv1, rfl⟩ := Kd.R_slice ho
  have hA2 : IAt ab a0 a1 a2 (.slice Av H.length cv) w2 := (hb.block ab hab).trans HA.out
  have hc6 : w2.cell? ⟨ab, 3, none⟩ = some (.slice Av H.length cv) := by rw [cell_of_heap hA2]; rfl
  have hf6 : w2.frozen? ⟨ab, 3, none⟩ = false := frozen_of_heap hA2 3
  have HA2 := Lib.hid hA2
  have HO := Lib.hid ho
  have HK2 : Hid (Kp ab ab w0 w2) := Lib.hid ⟨hb.os.trans HK.out.os, hb.tape.trans HK.out.tape, hb.output.trans HK.out.output, Nat.le_trans HK.out.size hb.size, fun k h1 h2 h3 => (hb.block k h1).trans (HK.out.block k h1 h2 h3)⟩
  clear hA2 ho hb hg hat hc5
  go_wp2
  go_end0
  refine ⟨rfl, _, ?_, Kd.R_set HO.out HA2.out (by decide) 3 _, HK2.out.set (p := ⟨ab, 3, none⟩) (.inl rfl) _⟩
  unfold IAt
  rw [heap_set HA2.out, List.length_append]
  rfl
/-- What the closure of CommonPrefixSearchCallback captures. -/
structure Capt (bi bc g bm ab : Nat) (A : DA) (cnt : Nat → Nat) (w0 : World) : Prop where
  hbi : w0.heap[bi]? = some (.cells #[.slice (some ⟨g, 0, none⟩) A.n A.n, .map (some bm)] tIdx (0, 0))
  hbc : w0.heap[bc]? = some (.cells #[.func (.func 71) #[] #[.pointer (some ⟨ab, 0, none⟩)]] tFn (0, 0))
  dup : Dup bm cnt w0
  ni : bi ≠ ab
  nc : bc ≠ ab
  nm : bm ≠ ab
  hab : ab < w0.heap.size
def Okc (cnt : Nat → Nat) (z : Int) : Prop := ∃ j : Nat, z = (j : Int) ∧ j + cnt j ≤ 2147483640 ∧ cnt j ≤ 100000
set_option maxHeartbeats 1000000 in
set_option maxRecDepth 100000 in
theorem ixclosure_any (bi bc g bm ab : Nat) (A : DA) (cnt : Nat → Nat) (a0 a1 a2 v : Value) (H : List Hit) (x y : Int) (w0 w : World) (hcp : Capt bi bc g bm ab A cnt w0) (hA : IAt ab a0 a1 a2 v w) (hR : kHit.R tHit w w0.heap.size (fun _ => True) v H) (hk : Kp ab ab w0 w) (hl : H.length ≤ 8796092000000) (hx : Okc cnt x) :
    Calls Tryd.prog 87 #[.int .i64 x, .int .i64 y, .pointer (some ⟨bi, 0, none⟩), .pointer (some ⟨bc, 0, none⟩)] w fun e w' => e = .returned (.tuple #[]) ∧ ∃ v', IAt ab a0 a1 a2 v' w' ∧ kHit.R tHit w' w0.heap.size (fun _ => True) v' (H ++ (rng x (cnt x.toNat)).map fun i => (i, y)) ∧ Kp ab ab w0 w' := by
  obtain ⟨j, rfl, hjc, hj1⟩ := hx
  have hbi := (hk.block bi (lt_of_heap hcp.hbi) hcp.ni hcp.ni).trans hcp.hbi
  have hc1 : w.cell? ⟨bi, 1, none⟩ = some (.map (some bm)) := by rw [cell_of_heap hbi]; rfl
  obtain ⟨n, D, hn, hown, hD⟩ := hcp.dup.keep (hk.block bm hcp.dup.lt hcp.nm hcp.nm)
  have HOWN := Lib.hid hown
  have HDD := Lib.hid hD
  have HKEY : Hid (keyOf Tryd.prog tI32 (.int .i32 (j : Int)) = some (.int .i32 (j : Int))) := Lib.hid (keyOf_int_mk Tryd.underlying21 (wf_i32 (by omega) (by omega)))
  have hj32 : IntKind.i32.wrap (j : Int) = j := IntWalk.i32_in _ (by omega)
  have HCP := Lib.hid hcp
  have HA := Lib.hid hA
  have HR := Lib.hid hR
  have HK := Lib.hid hk
  obtain ⟨N, hN⟩ : ∃ N, N = cnt j := ⟨_, rfl⟩
  rw [← hN] at hjc hj1
  rw [show ((j : Int)).toNat = j from Int.toNat_natCast j, ← hN]
  have HN := Lib.hid hN
  clear hcp hA hR hk hbi hown hD hN
  go_enter Tryd.func87, Tryd.ntmps87
  go_upto_region 1 with (at_lookup; refine wpList_lookup_own_int _ rfl _ _ tMp rfl tI32 tI32 .i32 lawI Tryd.underlying89 Tryd.underlying21 (zeroI32 _) bm n D rfl HOWN.out _ _ rfl HKEY.out ?_; intro c hat hwc; obtain rfl := (dup_val HDD.out (by omega) hat).trans (by rw [← HN.out]); clear hat hwc)
  go_upto_region 2 with fail
  clear HOWN HDD HKEY hc1
  go_loopw [7] (fun iv wr => ∃ (i : Nat) (v : Value), i ≤ N + 1 ∧ iv = .int .i64 ((j : Int) + (i : Int)) ∧ Hid (IAt ab a0 a1 a2 v wr) ∧ Hid (kHit.R tHit wr w0.heap.size (fun _ => True) v (H ++ ((rng (j : Int) N).take i).map fun z => (z, y))) ∧ Hid (Kp ab ab w0 wr)) (fun iv _ => N + 1 - (intOf iv - (j : Int)).toNat)
  case atStart => exact ⟨0, v, Nat.zero_le _, by simp, HA, by simpa using HR, HK⟩
  case round =>
    obtain ⟨i, v1, hi, rfl, HA1, HR1, HK1⟩ := hrel
    have hbc := (HK1.out.block bc (lt_of_heap HCP.out.hbc) HCP.out.nc HCP.out.nc).trans HCP.out.hbc
    have hcc : wr.cell? ⟨bc, 0, none⟩ = some (.func (.func 71) #[] #[.pointer (some ⟨ab, 0, none⟩)]) := by rw [cell_of_heap hbc]; rfl
    by_cases hlt : i < N + 1
    · have hin : (j : Int) + (i : Int) < (j : Int) + (N : Int) + 1 := by omega
      have HC := Lib.hid (iclosure_any ab a0 a1 a2 v1 _ ((j : Int) + (i : Int)) y w0 wr HA1.out HR1.out HK1.out HCP.out.hab (by simp [rng_length]; omega))
      have HT : Hid ((rng (j : Int) N).take (i + 1) = (rng (j : Int) N).take i ++ [(j : Int) + (i : Int)]) := Lib.hid (by rw [List.take_succ_eq_append_getElem (by rw [rng_length]; exact hlt)]; simp [rng])
      clear hbc
      go_wp2_with fail
      refine HC.out.mono ?_
      rintro e w3 ⟨rfl, v3, h1, h2, h3⟩
      have HX1 := Lib.hid h1
      have HX2 : Hid (kHit.R tHit w3 w0.heap.size (fun _ => True) v3 (H ++ ((rng (j : Int) N).take (i + 1)).map fun z => (z, y))) := Lib.hid (by rw [HT.out, List.map_append, ← List.append_assoc]; exact h2)
      have HX3 := Lib.hid h3
      clear h1 h2 h3 HC
      go_wp2_with fail
      exact ⟨⟨i + 1, v3, by omega, by go_num, HX1, HX2, HX3⟩, by simp [intOf]; omega⟩
    · obtain rfl : i = N + 1 := by omega
      have hin : ¬ ((j : Int) + ((N + 1 : Nat) : Int) < (j : Int) + (N : Int) + 1) := by omega
      have hr := HR1.out
      rw [List.take_of_length_le (by rw [rng_length]; exact Nat.le_refl _)] at hr
      have HR2 := Lib.hid hr
      clear hr hbc
      go_wp2_with fail
      go_end0
      exact ⟨rfl, v1, HA1.out, HR2.out, HK1.out⟩
end Go.Proofs.YteoljiclmhmbnaaDoor.Da
