/-
  Guarded operations of a region that are passed by, many at once.
-/
import Derived.OrdersHeld
import Derived.Deep.RegionHeld
import Derived.KernelRfl
set_option linter.unusedVariables false
namespace Go.Proofs.YtjifoimkjgepcaaDoor.Gd
open Go

section
variable {P : Program} {ops : Array Oper} {Q : Exit → Act → World → Prop} {md : Region.Mode} {S : World → Prop}

theorem hQ_put (hQ : ∀ c (a : Act) w (t : Array Value), Q (.panic c) { a with tmps := t } w → Q (.panic c) a w) (c : List PanicEntry) (a : Act) (w : World) (d : Option Tmp) (v : Value) (h : Q (.panic c) (a.put d v) w) : Q (.panic c) a w := by
  cases d with
  | none => exact h
  | some d => exact hQ c a w _ h

theorem take (i : Nat) {oi : Oper} {v : Value} {fuel : Nat} {listed : Array Bool} {a : Act} {w : World} (hi : ops[i]? = some oi)
    (hs : Region.noSelect ops = true) (hf : Region.free md ops listed i = true) (hr : (Region.ready md ops listed).contains i = true)
    (hQ : ∀ c (a : Act) w (t : Array Value), Q (.panic c) { a with tmps := t } w → Q (.panic c) a w) (hy : YieldsIf P ops S oi v a) (hS : S w)
    (h : wpAnyH P md ops Q S fuel (listed.setIfInBounds i true) (a.put oi.dst v) w) : wpAnyH P md ops Q S (fuel + 1) listed a w :=
  wpAnyH_take hi hs hf hr (fun c a w h => hQ_put hQ c a w _ _ h) hy hS h

def skipsOk (md : Region.Mode) (ops : Array Oper) : List Nat → Array Bool → Act → Bool
  | [], _, _ => true
  | i :: is, listed, a =>
    match ops[i]? with
    | none => false
    | some o => Region.free md ops listed i && ((Region.ready md ops listed).contains i && (!(Region.wanted o (yielded ops a.tmps)) && skipsOk md ops is (listed.setIfInBounds i true) (a.put o.dst undef)))

theorem skips (hs : Region.noSelect ops = true) (hQ : ∀ c (a : Act) w (t : Array Value), Q (.panic c) { a with tmps := t } w → Q (.panic c) a w) {w : World} (hS : S w) :
    ∀ (is : List Nat) (ds : List (Option Tmp)) (listed : Array Bool) (a : Act) (fuel : Nat), is.map (fun i => (ops[i]?).bind (·.dst)) = ds → skipsOk md ops is listed a = true →
      wpAnyH P md ops Q S fuel (is.foldl (fun l i => l.setIfInBounds i true) listed) (ds.foldl (fun a d => a.put d undef) a) w → wpAnyH P md ops Q S (fuel + is.length) listed a w
  | [], ds, listed, a, fuel, hd, hok, h => by
    subst hd
    exact h
  | i :: is, ds, listed, a, fuel, hd, hok, h => by
    subst hd
    unfold skipsOk at hok
    cases ho : ops[i]? with
    | none => rw [ho] at hok; cases hok
    | some o =>
      rw [ho] at hok
      simp only [Bool.and_eq_true, Bool.not_eq_true'] at hok
      obtain ⟨h1, h2, h3, h4⟩ := hok
      rw [List.length_cons, ← Nat.add_assoc]
      refine wpAnyH_take ho hs h1 h2 (fun c a w h => hQ_put hQ c a w _ _ h) (.inr ⟨h3, rfl⟩) hS ?_
      refine skips hs hQ hS is _ _ _ fuel rfl h4 ?_
      simpa [ho] using h

theorem skips_done (is : List Nat) (ds : List (Option Tmp)) {listed : Array Bool} {a : Act} {w : World} {fuel : Nat} (hs : Region.noSelect ops = true) (hd : is.map (fun i => (ops[i]?).bind (·.dst)) = ds) (hok : skipsOk md ops is listed a = true)
    (hr : Region.ready md ops (is.foldl (fun l i => l.setIfInBounds i true) listed) = []) (hf : fuel - is.length + is.length = fuel) (hQ : ∀ c (a : Act) w (t : Array Value), Q (.panic c) { a with tmps := t } w → Q (.panic c) a w) (hS : S w)
    (h : Q .normal (ds.foldl (fun a d => a.put d undef) a) w) : wpAnyH P md ops Q S fuel listed a w := by
  rw [← hf]
  exact skips hs hQ hS is ds listed a _ hd hok (wpAnyH_done hr h _)

/-! ### Those passed by, and the picks and moves of truth values between them -/
def isB (v : Value) (b : Bool) : Bool := match v with | .bool b' => b' == b | _ => false
theorem isB_eq {v : Value} {b : Bool} (h : isB v b = true) : v = .bool b := by
  unfold isB at h
  split at h
  · rw [beq_iff_eq.1 h]
  · cases h
def valB : Option Bool → Value | none => undef | some b => .bool b
def passStep (ops : Array Oper) (o : Oper) (a : Act) : Option Bool → Bool
  | none => !(Region.wanted o (yielded ops a.tmps))
  | some b => Region.wanted o (yielded ops a.tmps) && (match o.op with
    | .move x => isB (a.eval x) b
    | .pick c x y => match a.eval c with | .bool t => isB (cond t (a.eval x) (a.eval y)) b | _ => false
    | _ => false)
theorem passStep_yields {o : Oper} {a : Act} {ob : Option Bool} (h : passStep ops o a ob = true) : YieldsIf P ops S o (valB ob) a := by
  cases ob with
  | none => exact .inr ⟨by simpa [passStep] using h, rfl⟩
  | some b =>
    simp only [passStep, Bool.and_eq_true] at h
    obtain ⟨h1, h2⟩ := h
    refine .inl ⟨h1, fun w _ => ?_⟩
    unfold execOp
    cases hop : o.op with
    | move x =>
      rw [hop] at h2
      simp only at h2 ⊢
      rw [isB_eq h2]
      rfl
    | pick c x y =>
      rw [hop] at h2
      simp only at h2 ⊢
      cases hc : a.eval c with
      | bool t =>
        rw [hc] at h2
        simp only at h2
        have h3 := isB_eq h2
        cases t <;> simp only [cond_true, cond_false] at h3 <;> simp only [asBool, h3, valB] <;> rfl
      | _ => rw [hc] at h2; simp at h2
    | _ => rw [hop] at h2; simp at h2
def passOk (md : Region.Mode) (ops : Array Oper) : List (Nat × Option Bool) → Array Bool → Act → Bool
  | [], _, _ => true
  | (i, ob) :: is, listed, a =>
    match ops[i]? with
    | none => false
    | some o => Region.free md ops listed i && ((Region.ready md ops listed).contains i && (passStep ops o a ob && passOk md ops is (listed.setIfInBounds i true) (a.put o.dst (valB ob))))

theorem passes (hs : Region.noSelect ops = true) (hQ : ∀ c (a : Act) w (t : Array Value), Q (.panic c) { a with tmps := t } w → Q (.panic c) a w) {w : World} (hS : S w) :
    ∀ (is : List (Nat × Option Bool)) (ds : List (Option Tmp × Value)) (listed : Array Bool) (a : Act) (fuel : Nat), is.map (fun x => ((ops[x.1]?).bind (·.dst), valB x.2)) = ds → passOk md ops is listed a = true →
      wpAnyH P md ops Q S fuel (is.foldl (fun l x => l.setIfInBounds x.1 true) listed) (ds.foldl (fun a x => a.put x.1 x.2) a) w → wpAnyH P md ops Q S (fuel + is.length) listed a w
  | [], ds, listed, a, fuel, hd, hok, h => by
    subst hd
    exact h
  | (i, ob) :: is, ds, listed, a, fuel, hd, hok, h => by
    subst hd
    unfold passOk at hok
    cases ho : ops[i]? with
    | none => rw [ho] at hok; cases hok
    | some o =>
      rw [ho] at hok
      simp only [Bool.and_eq_true] at hok
      obtain ⟨h1, h2, h3, h4⟩ := hok
      rw [List.length_cons, ← Nat.add_assoc]
      refine wpAnyH_take ho hs h1 h2 (fun c a w h => hQ_put hQ c a w _ _ h) (passStep_yields h3) hS ?_
      refine passes hs hQ hS is _ _ _ fuel rfl h4 ?_
      simpa [ho] using h

theorem passes_done (is : List (Nat × Option Bool)) (ds : List (Option Tmp × Value)) {listed : Array Bool} {a : Act} {w : World} {fuel : Nat} (hs : Region.noSelect ops = true) (hd : is.map (fun x => ((ops[x.1]?).bind (·.dst), valB x.2)) = ds) (hok : passOk md ops is listed a = true)
    (hr : Region.ready md ops (is.foldl (fun l x => l.setIfInBounds x.1 true) listed) = []) (hf : fuel - is.length + is.length = fuel) (hQ : ∀ c (a : Act) w (t : Array Value), Q (.panic c) { a with tmps := t } w → Q (.panic c) a w) (hS : S w)
    (h : Q .normal (ds.foldl (fun a x => a.put x.1 x.2) a) w) : wpAnyH P md ops Q S fuel listed a w := by
  rw [← hf]
  exact passes hs hQ hS is ds listed a _ hd hok (wpAnyH_done hr h _)

/-! ### A region walked in the order of its text: that this is one of its orders is reckoned once -/
def upto (n i : Nat) : Array Bool := ((List.range n).map (fun j => decide (j < i))).toArray
theorem upto_zero (n : Nat) : Array.replicate n false = upto n 0 := by
  apply Array.ext'
  simp only [upto, Array.toList_replicate]
  refine List.ext_getElem (by simp) ?_
  intro i h1 h2
  simp
theorem upto_set (n i : Nat) : (upto n i).setIfInBounds i true = upto n (i + 1) := by
  apply Array.ext
  · simp [upto]
  · intro j h1 h2
    simp only [upto, List.size_toArray, List.length_map, List.length_range] at h2
    by_cases hji : i = j
    · subst hji
      simp [upto]
    · rw [Array.getElem_setIfInBounds_ne (by simpa [upto] using h2) hji]
      simp only [upto, List.getElem_toArray, List.getElem_map, List.getElem_range]
      congr 1
      apply propext
      omega
theorem ready_end (md : Region.Mode) (ops : Array Oper) {i : Nat} (h : ops.size ≤ i) : Region.ready md ops (upto ops.size i) = [] := by
  rw [Region.ready, List.filter_eq_nil_iff]
  intro j hj
  rw [List.mem_range] at hj
  simp [upto, Array.getD, hj, Nat.lt_of_lt_of_le hj h]
def ordT (ops : Array Oper) : Bool := (List.range ops.size).all fun i =>
  (Region.ready .any ops (upto ops.size i) == [i]) || ((Region.ready .any ops (upto ops.size i)).contains i && Region.free .any ops (upto ops.size i) i)
theorem ordT_at (h : ordT ops = true) {i : Nat} (hi : i < ops.size) : Region.ready .any ops (upto ops.size i) = [i] ∨ ((Region.ready .any ops (upto ops.size i)).contains i = true ∧ Region.free .any ops (upto ops.size i) i = true) := by
  unfold ordT at h
  rw [List.all_eq_true] at h
  have := h i (List.mem_range.2 hi)
  simp only [Bool.or_eq_true, Bool.and_eq_true, beq_iff_eq] at this
  exact this

def WT (P : Program) (ops : Array Oper) (Q : Exit → Act → World → Prop) (S : World → Prop) (i : Nat) (a : Act) (w : World) : Prop :=
  ordT ops = true → Region.noSelect ops = true → (∀ c (a : Act) w (t : Array Value), Q (.panic c) { a with tmps := t } w → Q (.panic c) a w) → wpAnyH P .any ops Q S (ops.size - i) (upto ops.size i) a w

theorem WT_start {id : Nat} {a : Act} {w : World} (hm : P.follows .mixedOrders = true) (hord : ordT ops = true) (hs : Region.noSelect ops = true) (hQ : ∀ c (a : Act) w (t : Array Value), Q (.panic c) { a with tmps := t } w → Q (.panic c) a w)
    (h : ∃ S : World → Prop, S w.drew ∧ (S w.drew → WT P ops Q S 0 a w.drew)) : (Code.region id ops true).wp P Q a w := by
  obtain ⟨S, hS, h⟩ := h
  refine wp_region_held_drew hm hS fun hS => ?_
  have := h hS hord hs hQ
  rw [upto_zero]
  exact this
theorem WT_end {i : Nat} {a : Act} {w : World} (hi : ops.size ≤ i) (h : Q .normal a w) : WT P ops Q S i a w := fun _ _ _ => wpAnyH_done (ready_end _ _ hi) h _
theorem WT_take (i : Nat) {oi : Oper} {v : Value} {a : Act} {w : World} (hi : ops[i]? = some oi) (hy : YieldsIf P ops S oi v a) (hS : S w) (h : WT P ops Q S (i + 1) (a.put oi.dst v) w) : WT P ops Q S i a w := by
  intro hord hs hQ
  have hlt : i < ops.size := by
    rcases Nat.lt_or_ge i ops.size with h1 | h1
    · exact h1
    · rw [Array.getElem?_eq_none h1] at hi; cases hi
  have hrest := h hord hs hQ
  rw [← upto_set] at hrest
  rw [show ops.size - i = (ops.size - (i + 1)) + 1 by omega]
  rcases ordT_at hord hlt with h1 | ⟨h1, h2⟩
  · refine wpAnyH_all h1 (by simp) ?_
    intro j hj
    obtain rfl := List.mem_singleton.1 hj
    exact hy.wpOp hi hS ⟨hS, hrest⟩
  · exact wpAnyH_take hi hs h2 h1 (fun c a w h => hQ_put hQ c a w _ _ h) hy hS hrest
theorem WT_call (i : Nat) {o : Oper} {a : Act} {w : World} (hi : ops[i]? = some o) (hone : Region.ready .any ops (upto ops.size i) = [i])
    (h : ∀ K' : Act → World → Prop, Shut (∀ a w, S w → (S w → WT P ops Q S (i + 1) a w) → K' a w) → if Region.wanted o (yielded ops a.tmps) = true then Oper.wp P o a w K' Q else K' (a.put o.dst undef) w) : WT P ops Q S i a w := by
  intro hord hs hQ
  have hlt : i < ops.size := by
    rcases Nat.lt_or_ge i ops.size with h1 | h1
    · exact h1
    · rw [Array.getElem?_eq_none h1] at hi; cases hi
  rw [show ops.size - i = (ops.size - (i + 1)) + 1 by omega]
  refine wpAnyH_ready hone (by simp) (AllReadyH.cons hi (fun K' hK => h K' ?_) AllReadyH.nil)
  intro a w h1 h2
  refine hK.out a w h1 fun h3 => ?_
  rw [upto_set]
  exact h2 h3 hord hs hQ

def passT (ops : Array Oper) : Nat → List (Option Bool) → Act → Bool
  | _, [], _ => true
  | i, ob :: is, a =>
    match ops[i]? with
    | none => false
    | some o => passStep ops o a ob && passT ops (i + 1) is (a.put o.dst (valB ob))
def dstT (ops : Array Oper) : Nat → List (Option Bool) → List (Option Tmp × Value)
  | _, [] => []
  | i, ob :: is => ((ops[i]?).bind (·.dst), valB ob) :: dstT ops (i + 1) is
theorem WT_passes {w : World} (hS : S w) : ∀ (i : Nat) (is : List (Option Bool)) (ds : List (Option Tmp × Value)) (m : Nat) (a : Act), dstT ops i is = ds → passT ops i is a = true → i + is.length = m →
      WT P ops Q S m (ds.foldl (fun a x => a.put x.1 x.2) a) w → WT P ops Q S i a w
  | i, [], ds, m, a, hd, hok, hm, h => by
    subst hd
    rw [← hm] at h
    exact h
  | i, ob :: is, ds, m, a, hd, hok, hm, h => by
    subst hd
    unfold passT at hok
    cases ho : ops[i]? with
    | none => rw [ho] at hok; cases hok
    | some o =>
      rw [ho] at hok
      simp only [Bool.and_eq_true] at hok
      refine WT_take i ho (passStep_yields hok.1) hS ?_
      refine WT_passes hS (i + 1) is _ m _ rfl hok.2 (by rw [← hm, List.length_cons]; omega) ?_
      simpa [dstT, ho] using h
end
end Go.Proofs.YtjifoimkjgepcaaDoor.Gd
