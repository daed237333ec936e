/-
  Records of a user dictionary: what a text's records are; the walks of zzHasPrefix, errors.New.
-/
import Derived.Test.YteoljiclmhmbnaaDoorTwA
import Derived.RegionTactic
import Derived.BigRegion
import Derived.Lib.Join
import Derived.Test.YteoljiclmhmbnaaDoorRows
import Derived.Outline
import Derived.Deep.QuietTactic
import Derived.BigQuiet
import Derived.Test.YteoljiclmhmbnaaDoorShelf
import Derived.Deep.RegionHeld3
import Derived.Deep.DeepCutAuto
import Derived.Lib.Hide
set_option linter.unusedVariables false
set_option linter.unusedSimpArgs false
namespace Go.Proofs.YteoljiclmhmbnaaDoor.Tx
open Go.RowKit Go.Proofs.YteoljiclmhmbnaaDoor.K Go.Proofs.YteoljiclmhmbnaaDoorW.PrintWords

abbrev Rec : Type := ByteArray × List ByteArray × List ByteArray × ByteArray
def kRec : Kd Rec := Kd.pair Kd.string (Kd.pair (Kd.slice 9 Kd.string) (Kd.pair (Kd.slice 9 Kd.string) Kd.string))
def keepLine (x : List UInt8) : Bool := !(x == []) && !(x.head? == some 35)
/-- The lines that are read as records. -/
def texts (l : List UInt8) : List (List UInt8) := ((rawL l).map strip).filter keepLine
def parse1 (x : List UInt8) : Option Rec :=
  match splitC 44 x with
  | [a, b, c, d] => if (splitC 32 b).length = (splitC 32 c).length then some (ofL a, (splitC 32 b).map ofL, (splitC 32 c).map ofL, ofL d) else none
  | _ => none
def parse (l : List UInt8) : Option (List Rec) := (texts l).mapM parse1

theorem errNew_any (s : ByteArray) (w : World) : Calls Tryd.prog 65 #[.string s] w fun e w' => e = .returned (.iface 183 (.pointer (some ⟨w.heap.size, 0, none⟩))) ∧ w' = w.alloc (.cells #[.string s] 185) := by
  go_enter Tryd.func65, Tryd.ntmps65
  go_wp2
  go_ret
  exact ⟨rfl, rfl⟩

theorem made_recs (n : Nat) (hn : n ≤ 1099511627776) (W : World) :
    ∃ w', (Instr.makeSlice 84 (.int .i64 0) (.int .i64 n)).run Tryd.prog W = .ok (.slice (some ⟨W.heap.size, 0, none⟩) 0 n) w' ∧
      kRec.R 146 w' W.heap.size (fun _ => True) (.slice (some ⟨W.heap.size, 0, none⟩) 0 n) [] ∧ Below W.heap.size W w' := by
  obtain ⟨i, hi, hii⟩ := Option.map_eq_some_iff.1 (show (Tryd.prog.info? 146).map (fun i => (i.zero, i.size, i.bytes)) = some (some (.agg #[.string ⟨#[]⟩, .slice none 0 0, .slice none 0 0, .string ⟨#[]⟩]), 4, 80) by kernel_rfl)
  simp only [Prod.mk.injEq] at hii
  obtain ⟨hz, hsz, hby⟩ := hii
  obtain ⟨w', hrun, hown, hgr⟩ := run_make_own (P := Tryd.prog) (w := W) W.heap.size 84 146 i _ 4 Tryd.underlying84 hi hz hsz .i64 .i64 n (by rw [hby]; omega) (by simp only [maxLen]; omega) (Nat.le_refl _)
  exact ⟨w', hrun, ⟨fun _ _ => trivial, [], hown, ⟨by simp, fun j p h => by simp at h⟩⟩, (Below.refl _ _).grown hgr (Nat.le_refl _) (fun k h => by cases h)⟩

theorem splitC_lens (c : UInt8) : ∀ (n : Nat) (l : List UInt8), l.length ≤ n → (splitC c l).length ≤ l.length + 1 ∧ ∀ x ∈ splitC c l, x.length ≤ l.length := by
  intro n
  induction n with
  | zero =>
    intro l hl
    obtain rfl : l = [] := List.eq_nil_of_length_eq_zero (by omega)
    rw [splitC_no (by simp)]
    simp
  | succ n ih =>
    intro l hl
    by_cases h : c ∈ l
    · have hi := List.idxOf_lt_length_of_mem h
      obtain ⟨h1, h2⟩ := ih (l.drop (l.idxOf c + 1)) (by rw [List.length_drop]; omega)
      rw [List.length_drop] at h1 h2
      rw [splitC_ix h]
      refine ⟨by rw [List.length_cons]; omega, fun x hx => ?_⟩
      rcases List.mem_cons.1 hx with rfl | hx
      · rw [List.length_take]; omega
      · have := h2 x hx; omega
    · rw [splitC_no h]
      simp
theorem rawL_lens : ∀ (n : Nat) (l : List UInt8), l.length ≤ n → (rawL l).length ≤ l.length ∧ ∀ x ∈ rawL l, x.length ≤ l.length := by
  intro n
  induction n with
  | zero =>
    intro l hl
    obtain rfl : l = [] := List.eq_nil_of_length_eq_zero (by omega)
    rw [rawL_nil]
    simp
  | succ n ih =>
    intro l hl
    by_cases h0 : l = []
    · subst h0
      rw [rawL_nil]
      simp
    by_cases h : 10 ∈ l
    · have hi := List.idxOf_lt_length_of_mem h
      obtain ⟨h1, h2⟩ := ih (l.drop (l.idxOf 10 + 1)) (by rw [List.length_drop]; omega)
      rw [List.length_drop] at h1 h2
      rw [rawL_ix h0 h]
      refine ⟨by rw [List.length_cons]; omega, fun x hx => ?_⟩
      rcases List.mem_cons.1 hx with rfl | hx
      · rw [List.length_take]; omega
      · have := h2 x hx; omega
    · rw [rawL_no h0 h]
      have := List.length_pos_iff.2 h0
      exact ⟨by simp; omega, by simp⟩
theorem strip_le (x : List UInt8) : (strip x).length ≤ x.length := by
  rw [strip]
  split
  · simp
  · exact Nat.le_refl _
theorem kRec_sz : kRec.sz = 4 := rfl
theorem rec_info : (Tryd.prog.info? 146).map (fun i => (i.zero, i.size, i.bytes)) = some (some (.agg #[.string ⟨#[]⟩, .slice none 0 0, .slice none 0 0, .string ⟨#[]⟩]), kRec.sz, 80) := by kernel_rfl
theorem rec_cells : (Value.agg #[.string ⟨#[]⟩, .slice none 0 0, .slice none 0 0, .string ⟨#[]⟩]).cells.size = kRec.sz := rfl
theorem rec_pos : 0 < kRec.sz := by decide
theorem mapM_snoc {α β : Type} {f : α → Option β} {T : List α} {rs : List β} (x : α) (h : T.mapM f = some rs) : (T ++ [x]).mapM f = (f x).bind fun r => some (rs ++ [r]) := by
  rw [List.mapM_append, h]
  cases hx : f x with
  | none => simp [List.mapM_cons, hx]
  | some r => simp [List.mapM_cons, hx]
theorem parse1_len {x : List UInt8} (h : (splitC 44 x).length ≠ 4) : parse1 x = none := by
  rw [parse1]
  split
  next a b c d e => rw [e] at h; exact absurd rfl h
  · rfl
theorem parse1_four {x a b c d : List UInt8} (h : splitC 44 x = [a, b, c, d]) : parse1 x = if (splitC 32 b).length = (splitC 32 c).length then some (ofL a, (splitC 32 b).map ofL, (splitC 32 c).map ofL, ofL d) else none := by
  rw [parse1, h]
theorem four_of_len {α : Type} {l : List α} (h : l.length = 4) : ∃ a b c d, l = [a, b, c, d] := by
  match l, h with
  | [a, b, c, d], _ => exact ⟨a, b, c, d, rfl⟩
theorem mapM_none {α β : Type} {f : α → Option β} {T : List α} (k : Nat) (h : (T.take k).mapM f = none) : T.mapM f = none := by
  rw [← List.take_append_drop k T, List.mapM_append, h]
  rfl

theorem R_from {α : Type} {d : Kd α} {e : Nat} {w : World} {base b b' : Nat} {ok : Nat → Prop} {v : Value} {xs : List α} (h : d.R e w base ok v xs) (h1 : b ≤ base) (h2 : b' ≤ base) : d.R e w b' (fun k => b ≤ k) v xs :=
  Kd.R_lower (Kd.R_mono (Kd.R_bound h) (fun k hk => Nat.le_trans h1 hk.2.1)) h2
theorem rec_M {w : World} {base : Nat} {ok : Nat → Prop} {a d : ByteArray} {v v' : Value} {xs ys : List ByteArray} (h : Kd.string.R 9 w base ok v xs) (h' : Kd.string.R 9 w base ok v' ys) :
    kRec.M w base ok (a, xs, ys, d) [.string a, v, v', .string d] :=
  ⟨[.string a], [v, v', .string d], rfl, rfl, [v], [v', .string d], rfl, ⟨v, rfl, h⟩, [v'], [.string d], rfl, ⟨v', rfl, h'⟩, rfl⟩

def RecsRet (l : List UInt8) (w : World) (e : Ending) (w' : World) : Prop :=
  match parse l with
  | some rs => ∃ v, e = .returned (.tuple #[v, .nilIface]) ∧ kRec.R 146 w' w.heap.size (fun _ => True) v rs ∧ Below w.heap.size w w'
  | none => ∃ a, e = .returned (.tuple #[.slice none 0 0, .iface 183 (.pointer (some a))]) ∧ Below w.heap.size w w'

end Go.Proofs.YteoljiclmhmbnaaDoor.Tx

/-
  The walks of laws.within and laws.joined.
-/
set_option linter.unusedVariables false
set_option linter.unusedSimpArgs false
namespace Go.Proofs.YteoljiclmhmbnaaDoor.Tx
open Go.RowKit Go.Proofs.YteoljiclmhmbnaaDoor.K Go.Proofs.YteoljiclmhmbnaaDoorW.PrintWords

/-- Texts in line, a byte between them. -/
def jn (c : UInt8) : List (List UInt8) → List UInt8
  | [] => []
  | [x] => x
  | x :: y :: r => x ++ c :: jn c (y :: r)
theorem jn_join (c : UInt8) (xs : List (List UInt8)) : Lib.join xs [c] = jn c xs := by
  induction xs with
  | nil => rfl
  | cons x r ih =>
    cases r with
    | nil => rw [Lib.join_one]; rfl
    | cons y r =>
      rw [Lib.join_cons] at ih ⊢
      rw [jn, ← ih]
      simp [Lib.joinTail]
theorem jn_snoc (c : UInt8) (xs : List (List UInt8)) (x : List UInt8) (h : xs ≠ []) : jn c (xs ++ [x]) = jn c xs ++ [c] ++ x := by
  induction xs with
  | nil => exact absurd rfl h
  | cons y r ih =>
    cases r with
    | nil => simp [jn]
    | cons z r =>
      have := ih (by simp)
      rw [List.cons_append, List.cons_append, jn, ← List.cons_append, this, jn]
      simp
theorem jn_length (c : UInt8) (xs : List (List UInt8)) : (jn c xs).length ≤ (xs.map fun x => x.length + 1).sum := by
  induction xs with
  | nil => simp [jn]
  | cons x r ih =>
    cases r with
    | nil => simp [jn]
    | cons y r =>
      rw [jn, List.map_cons, List.sum_cons, List.length_append, List.length_cons]
      omega
theorem ofL_append (a b : List UInt8) : ofL a ++ ofL b = ofL (a ++ b) := by
  apply ba_ext
  simp [ofL, ByteArray.data_append]
def bulkT (xs : List ByteArray) : Nat := (xs.map fun x => x.size + 1).sum
theorem bulkT_take (xs : List ByteArray) (k : Nat) : bulkT (xs.take k) ≤ bulkT xs := by
  have h : bulkT xs = bulkT (xs.take k) + bulkT (xs.drop k) := by
    unfold bulkT
    rw [← List.sum_append, ← List.map_append, List.take_append_drop]
  omega
theorem jn_bulk (c : UInt8) (xs : List ByteArray) : (jn c (xs.map toL)).length ≤ bulkT xs := by
  have := jn_length c (xs.map toL)
  rw [List.map_map] at this
  refine Nat.le_trans this (Nat.le_of_eq ?_)
  unfold bulkT
  congr 1
theorem mem_bulk {xs : List ByteArray} {x : ByteArray} (h : x ∈ xs) : x.size + 1 ≤ bulkT xs := by
  induction xs with
  | nil => cases h
  | cons y r ih =>
    unfold bulkT
    rw [List.map_cons, List.sum_cons]
    rcases List.mem_cons.1 h with rfl | h
    · omega
    · have := ih h
      unfold bulkT at this
      omega

/-- What is joined of the first k. -/
def pj (c : UInt8) (xs : List ByteArray) (k : Nat) : ByteArray := ofL (jn c ((xs.take k).map toL))
theorem pj_size (c : UInt8) (xs : List ByteArray) (k : Nat) : (pj c xs k).size ≤ bulkT xs := by
  rw [pj, ofL_size]
  exact Nat.le_trans (jn_bulk c _) (bulkT_take xs k)
theorem pj_size1 (c : UInt8) (xs : List ByteArray) (k : Nat) (h : k < xs.length) : (pj c xs k).size + xs[k].size + 1 ≤ bulkT xs := by
  have h1 : (pj c xs k).size ≤ bulkT (xs.take k) := by rw [pj, ofL_size]; exact jn_bulk c _
  have h2 := bulkT_take xs (k + 1)
  have h3 : bulkT (xs.take (k + 1)) = bulkT (xs.take k) + (xs[k].size + 1) := by
    rw [List.take_succ_eq_append_getElem h]
    unfold bulkT
    rw [List.map_append, List.sum_append]
    rfl
  omega
theorem pj_first (c : UInt8) (xs : List ByteArray) (k : Nat) (hlt : k < xs.length) (hk0 : k = 0) : pj c xs k ++ xs[k] = pj c xs (k + 1) := by
  subst hk0
  unfold pj
  rw [List.take_succ_eq_append_getElem hlt]
  show ofL [] ++ xs[0] = ofL (toL xs[0])
  rw [ofL_toL]
  apply ba_ext
  simp [ofL]
theorem pj_next (c : UInt8) (xs : List ByteArray) (k : Nat) (hlt : k < xs.length) (hk0 : k ≠ 0) : pj c xs k ++ one c ++ xs[k] = pj c xs (k + 1) := by
  have hne : (xs.take k).map toL ≠ [] := by
    intro e
    have := congrArg List.length e
    rw [List.length_map, List.length_take, Nat.min_eq_left (by omega)] at this
    exact hk0 this
  unfold pj
  rw [List.take_succ_eq_append_getElem hlt, List.map_append, List.map_cons, List.map_nil, jn_snoc c _ _ hne, show one c = ofL [c] from rfl, ofL_append]
  conv => lhs; rw [← ofL_toL xs[k], ofL_append]
def BoolA (w : World) (e : Ending) (w' : World) : Prop := ∃ b, e = .returned (.bool b) ∧ w' = w
set_option maxHeartbeats 1000000 in
set_option maxRecDepth 5000 in
theorem within_any (s : ByteArray) (c : Int) (w : World) (hs : s.size ≤ 4611686018427387904) :
    Calls Tryd.prog 73 #[.string s, .int .u8 c] w (BoolA w) := by
  go_enter Tryd.func73, Tryd.ntmps73
  go_wp2
  go_loopw [8] (fun i wr => ∃ k : Nat, k ≤ s.size ∧ i = .int .i64 k ∧ wr = w) (fun i _ => s.size - (intOf i).toNat)
  case atStart => exact ⟨0, Nat.zero_le _, rfl, rfl⟩
  case round =>
    obtain ⟨k, hk, rfl, rfl⟩ := hrel
    by_cases hlt : k < s.size
    · by_cases hx : ((s[k].toNat : Int)) = c
      · have ht : (((s[k].toNat : Int)) == c) = true := by simpa using hx
        clear hx
        go_wp2
        go_ret
        exact ⟨true, by simp, rfl⟩
      · have ht : (((s[k].toNat : Int)) == c) = false := by simpa using hx
        clear hx
        go_wp2
        exact ⟨⟨k + 1, by omega, by go_num, trivial⟩, by simp [intOf]; omega⟩
    · go_wp2
      go_ret
      exact ⟨false, rfl, rfl⟩
end Go.Proofs.YteoljiclmhmbnaaDoor.Tx

/-
  Records of a user dictionary as lines: the records of lines that are written, and of a text behind them. No program in sight.
-/
set_option linter.unusedVariables false
set_option linter.unusedSimpArgs false
namespace Go.Proofs.YteoljiclmhmbnaaDoor.Tx
open Go.RowKit Go.Proofs.YteoljiclmhmbnaaDoor.K Go.Proofs.YteoljiclmhmbnaaDoorW.PrintWords

def plainW (s : ByteArray) : Prop := s.size ≠ 0 ∧ ∀ c ∈ toL s, 32 < c.toNat ∧ c.toNat ≠ 44 ∧ c.toNat ≠ 35
def okRec (u : Rec) : Prop := plainW u.1 ∧ plainW u.2.2.2 ∧ u.2.1.length = u.2.2.1.length ∧ 1 ≤ u.2.1.length ∧ u.2.1.length ≤ 20 ∧ (∀ x ∈ u.2.1, plainW x) ∧ ∀ x ∈ u.2.2.1, plainW x
def rowL (u : Rec) : List UInt8 := toL u.1 ++ 44 :: (jn 32 (u.2.1.map toL) ++ 44 :: (jn 32 (u.2.2.1.map toL) ++ 44 :: toL u.2.2.2))
def textL : List Rec → List UInt8
  | [] => []
  | u :: r => rowL u ++ 10 :: textL r
theorem textL_app (a b : List Rec) : textL (a ++ b) = textL a ++ textL b := by
  induction a with
  | nil => rfl
  | cons u r ih => rw [List.cons_append, textL, textL, ih]; simp
theorem mem_jn {c x : UInt8} : ∀ {xs : List (List UInt8)}, x ∈ jn c xs → x = c ∨ ∃ y ∈ xs, x ∈ y
  | [], h => by simp [jn] at h
  | [y], h => .inr ⟨y, by simp, h⟩
  | y :: z :: r, h => by
    rw [jn] at h
    rcases List.mem_append.1 h with h | h
    · exact .inr ⟨y, by simp, h⟩
    · rcases List.mem_cons.1 h with h | h
      · exact .inl h
      · rcases mem_jn h with h | ⟨a, ha, h⟩
        · exact .inl h
        · exact .inr ⟨a, List.mem_cons_of_mem _ ha, h⟩
theorem split_jn {c : UInt8} : ∀ {xs : List (List UInt8)}, xs ≠ [] → (∀ x ∈ xs, c ∉ x) → splitC c (jn c xs) = xs
  | [], h, _ => absurd rfl h
  | [y], _, h => splitC_no (h y (by simp))
  | y :: z :: r, _, h => by rw [jn, splitC_app (h y (by simp)), split_jn (by simp) (fun x hx => h x (List.mem_cons_of_mem _ hx))]
theorem plainW_no {s : ByteArray} (h : plainW s) (c : UInt8) (hc : c.toNat ≤ 32 ∨ c.toNat = 44 ∨ c.toNat = 35) : c ∉ toL s := by
  intro hm
  have := h.2 c hm
  omega
theorem jn_no {xs : List ByteArray} (h : ∀ x ∈ xs, plainW x) (c : UInt8) (hc : c.toNat < 32 ∨ c.toNat = 44 ∨ c.toNat = 35) : c ∉ jn 32 (xs.map toL) := by
  intro hm
  rcases mem_jn hm with rfl | ⟨y, hy, hm⟩
  · revert hc; decide
  · obtain ⟨x, hx, rfl⟩ := List.mem_map.1 hy
    exact plainW_no (h x hx) c (by omega) hm
theorem split_toks {xs : List ByteArray} (h : ∀ x ∈ xs, plainW x) (h0 : 1 ≤ xs.length) : (splitC 32 (jn 32 (xs.map toL))).map ofL = xs ∧ (splitC 32 (jn 32 (xs.map toL))).length = xs.length := by
  rw [split_jn (by intro e; have := congrArg List.length e; simp at this; subst this; simp at h0) (by
    intro x hx
    obtain ⟨y, hy, rfl⟩ := List.mem_map.1 hx
    exact plainW_no (h y hy) 32 (.inl (by decide)))]
  refine ⟨?_, by simp⟩
  rw [List.map_map]
  conv => rhs; rw [← List.map_id xs]
  exact List.map_congr_left fun x _ => ofL_toL x
theorem parse1_row {u : Rec} (h : okRec u) : parse1 (rowL u) = some u := by
  obtain ⟨h1, h2, h3, h4, h5, h6, h7⟩ := h
  have hs : splitC 44 (rowL u) = [toL u.1, jn 32 (u.2.1.map toL), jn 32 (u.2.2.1.map toL), toL u.2.2.2] := by
    rw [rowL, splitC_app (plainW_no h1 44 (by decide)), splitC_app (jn_no h6 44 (by decide)), splitC_app (jn_no h7 44 (by decide)), splitC_no (plainW_no h2 44 (by decide))]
  obtain ⟨e1, e2⟩ := split_toks h6 h4
  obtain ⟨e3, e4⟩ := split_toks h7 (by omega)
  rw [parse1_four hs, if_pos (by rw [e2, e4, h3]), e1, e3, ofL_toL, ofL_toL]
theorem rowL_no {u : Rec} (h : okRec u) : 10 ∉ rowL u := by
  obtain ⟨h1, h2, h3, h4, h5, h6, h7⟩ := h
  have a1 := plainW_no h1 10 (by decide)
  have a2 := plainW_no h2 10 (by decide)
  have a3 := jn_no h6 10 (by decide)
  have a4 := jn_no h7 10 (by decide)
  rw [rowL]
  simp [a1, a2, a3, a4]
theorem rowL_keep {u : Rec} (h : okRec u) : keepLine (rowL u) = true := by
  obtain ⟨h1, _⟩ := h
  have hn : toL u.1 ≠ [] := by
    intro e
    have := congrArg List.length e
    rw [toL_size] at this
    exact h1.1 this
  have hh : (rowL u).head? ≠ some 35 := by
    have hq := plainW_no h1 35 (by decide)
    rw [rowL]
    cases hc : toL u.1 with
    | nil => exact absurd hc hn
    | cons a r =>
      rw [hc] at hq
      simp at hq ⊢
      exact fun e => hq.1 e.symm
  have hne : rowL u ≠ [] := by rw [rowL]; simp [hn]
  simp [keepLine, hh, hne]
theorem rowL_strip {u : Rec} (h : okRec u) : strip (rowL u) = rowL u := by
  obtain ⟨_, h1, _⟩ := h
  have hn : toL u.2.2.2 ≠ [] := by
    intro e
    have := congrArg List.length e
    rw [toL_size] at this
    exact h1.1 this
  have hh : (rowL u).getLast? ≠ some 13 := by
    have e0 : rowL u = (toL u.1 ++ 44 :: (jn 32 (u.2.1.map toL) ++ 44 :: (jn 32 (u.2.2.1.map toL) ++ [44]))) ++ toL u.2.2.2 := by rw [rowL]; simp
    rw [e0, List.getLast?_append]
    intro e
    cases hc : (toL u.2.2.2).getLast? with
    | none => exact hn (List.getLast?_eq_none_iff.1 hc)
    | some x =>
      rw [hc] at e
      simp at e
      subst e
      exact plainW_no h1 13 (by decide) (List.mem_of_getLast? hc)
  rw [strip, if_neg hh]
theorem texts_app (s : List UInt8) : ∀ (us : List Rec), (∀ u ∈ us, okRec u) → texts (textL us ++ s) = us.map rowL ++ texts s
  | [], _ => rfl
  | u :: r, h => by
    have hu := h u (by simp)
    have := texts_app s r (fun x hx => h x (List.mem_cons_of_mem _ hx))
    rw [textL, List.append_assoc, List.cons_append, texts, rawL_app (rowL_no hu), List.map_cons, rowL_strip hu, List.filter_cons, if_pos (rowL_keep hu), List.map_cons, List.cons_append, ← this, texts]
theorem rows_parse : ∀ (us : List Rec), (∀ u ∈ us, okRec u) → (us.map rowL).mapM parse1 = some us
  | [], _ => rfl
  | u :: r, h => by
    rw [List.map_cons, List.mapM_cons, parse1_row (h u (by simp)), rows_parse r (fun x hx => h x (List.mem_cons_of_mem _ hx))]
    rfl
theorem parse_app (s : List UInt8) (us : List Rec) (h : ∀ u ∈ us, okRec u) : parse (textL us ++ s) = (parse s).map (us ++ ·) := by
  rw [parse, texts_app s us h, List.mapM_append, rows_parse us h, parse]
  cases (texts s).mapM parse1 <;> rfl
theorem rawL_count : ∀ (us : List Rec) (s : List UInt8), (∀ u ∈ us, okRec u) → (rawL (textL us ++ s)).length = us.length + (rawL s).length
  | [], s, _ => by simp [textL]
  | u :: r, s, h => by
    rw [textL, List.append_assoc, List.cons_append, rawL_app (rowL_no (h u (by simp))), List.length_cons, rawL_count r s (fun x hx => h x (List.mem_cons_of_mem _ hx)), List.length_cons]
    omega
theorem bulk_fit {xs : List ByteArray} (h : ∀ x ∈ xs, x.size ≤ 2147483647) : bulkT xs ≤ xs.length * 2147483648 := by
  induction xs with
  | nil => simp [bulkT]
  | cons x r ih =>
    have h1 := h x (by simp)
    have h2 := ih (fun y hy => h y (List.mem_cons_of_mem _ hy))
    have h3 : bulkT (x :: r) = x.size + 1 + bulkT r := by simp [bulkT]
    rw [h3, List.length_cons, Nat.add_mul]
    omega
theorem jn_fit {xs : List ByteArray} (h : ∀ x ∈ xs, x.size ≤ 2147483647) : (jn 32 (xs.map toL)).length ≤ xs.length * 2147483648 := by
  refine Nat.le_trans (jn_bulk 32 xs) ?_
  induction xs with
  | nil => simp [bulkT]
  | cons x r ih =>
    have h1 := h x (by simp)
    have h2 := ih (fun y hy => h y (List.mem_cons_of_mem _ hy))
    have h3 : bulkT (x :: r) = x.size + 1 + bulkT r := by simp [bulkT]
    rw [h3, List.length_cons, Nat.add_mul]
    omega
def fitR (u : Rec) : Prop := u.1.size ≤ 2147483647 ∧ u.2.2.2.size ≤ 2147483647 ∧ (∀ x ∈ u.2.1, x.size ≤ 2147483647) ∧ ∀ x ∈ u.2.2.1, x.size ≤ 2147483647
theorem rowL_fit {u : Rec} (h : okRec u) (hf : fitR u) : (rowL u).length ≤ 43 * 2147483648 := by
  obtain ⟨h1, h2, h3, h4, h5, h6, h7⟩ := h
  obtain ⟨f1, f2, f3, f4⟩ := hf
  have j1 := jn_fit f3
  have j2 := jn_fit f4
  have s1 := toL_size u.1
  have s2 := toL_size u.2.2.2
  have m1 : u.2.1.length * 2147483648 ≤ 20 * 2147483648 := Nat.mul_le_mul_right _ h5
  have m2 : u.2.2.1.length * 2147483648 ≤ 20 * 2147483648 := Nat.mul_le_mul_right _ (by omega)
  rw [rowL]
  simp only [List.length_append, List.length_cons]
  omega
theorem textL_fit : ∀ (us : List Rec), (∀ u ∈ us, okRec u) → (∀ u ∈ us, fitR u) → (textL us).length ≤ us.length * 100000000000
  | [], _, _ => by simp [textL]
  | u :: r, h, hf => by
    have h1 := rowL_fit (h u (by simp)) (hf u (by simp))
    have h2 := textL_fit r (fun x hx => h x (List.mem_cons_of_mem _ hx)) (fun x hx => hf x (List.mem_cons_of_mem _ hx))
    rw [textL, List.length_append, List.length_cons, List.length_cons, Nat.add_mul]
    omega
end Go.Proofs.YteoljiclmhmbnaaDoor.Tx

/-
  The walks of the laws' small functions that only look: zzFits3, zzFits6, few, smallLists.
-/
set_option linter.unusedVariables false
set_option linter.unusedSimpArgs false
namespace Go.Proofs.YteoljiclmhmbnaaDoor.K
open Go.RowKit Go.Proofs.YteoljiclmhmbnaaDoorW.PrintWords

/-- Some bool is returned; where it is true, p. -/
def BoolIf (p : Prop) (w : World) (e : Ending) (w' : World) : Prop := ∃ b : Bool, e = .returned (.bool b) ∧ (b = true → p) ∧ Below w.heap.size w w'

def fits3 (xs : List ByteArray) : Prop := xs.length ≤ 2147483647 ∧ ∀ x ∈ xs, x.size ≤ 2147483647
def fits6 (xs : List (List ByteArray)) : Prop := xs.length ≤ 2147483647 ∧ ∀ x ∈ xs, fits3 x

theorem all_take {α : Type} {p : α → Prop} {xs : List α} {k : Nat} (hk : k < xs.length) (h : ∀ x ∈ xs.take k, p x) (hx : p xs[k]) : ∀ x ∈ xs.take (k + 1), p x := by
  intro x hm
  rw [List.take_succ_eq_append_getElem hk] at hm
  rcases List.mem_append.1 hm with hm | hm
  · exact h x hm
  · rw [List.mem_singleton] at hm; subst hm; exact hx

set_option maxHeartbeats 400000 in
theorem zzFits3_any (A : Option Addr) (c : Nat) (xs : List ByteArray) (w : World) (hC : Kd.string.C w A xs.length xs) :
    Calls Tryd.prog 59 #[.slice A xs.length c] w (BoolIf (fits3 xs) w) := by
  have hm := hC.2.1
  have HC := Lib.hid hC
  clear hC
  go_enter Tryd.func59, Tryd.ntmps59
  by_cases hbig : 2147483647 < xs.length
  · go_wp2
    go_ret
    exact ⟨false, rfl, by simp, Below.refl _ _⟩
  go_wp2
  go_loopw [10] (fun i wr => ∃ k : Nat, k ≤ xs.length ∧ i = .int .i64 k ∧ Hid (∀ x ∈ xs.take k, x.size ≤ 2147483647) ∧ Below w.heap.size w wr) (fun i _ => xs.length - (intOf i).toNat)
  case atStart => exact ⟨0, Nat.zero_le _, rfl, Lib.hid (by simp), Below.refl _ _⟩
  case round =>
    obtain ⟨k, hk, rfl, hall, hbel⟩ := hrel
    by_cases hlt : k < xs.length
    · obtain ⟨ad, rfl, hs⟩ := strs_at HC.out k hlt
      have hs' := (hbel.cell (World.block_lt_of_cell? w _ hs)).trans hs
      clear hs
      by_cases hx : 2147483647 < xs[k].size
      · go_wp2
        go_ret
        exact ⟨false, rfl, by simp, hbel⟩
      · have HX := Lib.hid (Nat.le_of_not_lt hx)
        go_wp2
        refine ⟨⟨k + 1, by omega, by go_num, Lib.hid (all_take hlt hall.out HX.out), hbel⟩, by simp [intOf]; omega⟩
    · go_wp2
      go_ret
      obtain rfl : k = xs.length := by omega
      have := hall.out
      rw [List.take_length] at this
      exact ⟨true, rfl, fun _ => ⟨by omega, this⟩, hbel⟩

set_option maxHeartbeats 400000 in
theorem few_any (A : Option Addr) (c : Nat) (xs : List (List ByteArray)) (w : World) (hC : (Kd.slice 9 Kd.string).C w A xs.length xs) :
    Calls Tryd.prog 38 #[.slice A xs.length c] w (BoolIf True w) := by
  have hm := hC.2.1
  have HC := Lib.hid hC
  clear hC
  go_enter Tryd.func38, Tryd.ntmps38
  go_wp2
  go_loopw [3, 8] (fun n i wr => ∃ k : Nat, k ≤ xs.length ∧ i = .int .i64 k ∧ (∃ x, n = .int .i64 x) ∧ Below w.heap.size w wr) (fun _ i _ => xs.length - (intOf i).toNat)
  case atStart => exact ⟨0, Nat.zero_le _, rfl, ⟨_, rfl⟩, Below.refl _ _⟩
  case round =>
    obtain ⟨k, hk, rfl, ⟨x, rfl⟩, hbel⟩ := hrel
    by_cases hlt : k < xs.length
    · obtain ⟨ad, A', c', rfl, hs, hl', hC'⟩ := rows_at HC.out k hlt
      have hs' := (hbel.cell (World.block_lt_of_cell? w _ hs)).trans hs
      have HS := Lib.hid hs
      have HC' := Lib.hid hC'
      have hm' := hC'.2.1
      have HL := Lib.hid hbel
      clear hs hl' hC' hbel
      go_wp2
      obtain ⟨wo, hwo⟩ : ∃ wo : World, wo = wr := ⟨_, rfl⟩
      subst hwo
      go_loopw [3, 16] (fun n i wi => ∃ j : Nat, j ≤ xs[k].length ∧ i = .int .i64 j ∧ (∃ x, n = .int .i64 x) ∧ Below w.heap.size w wi) (fun _ i _ => xs[k].length - (intOf i).toNat)
      case atStart => exact ⟨0, Nat.zero_le _, rfl, ⟨_, rfl⟩, HL.out⟩
      case round =>
        obtain ⟨j, hj, rfl, ⟨y, rfl⟩, hbel⟩ := hrel
        by_cases hjl : j < xs[k].length
        · obtain ⟨ad2, rfl, hs2⟩ := strs_at HC'.out j hjl
          have h1 := (hbel.cell (World.block_lt_of_cell? w _ hs2)).trans hs2
          have h2 := (hbel.cell (World.block_lt_of_cell? w _ HS.out)).trans HS.out
          clear hs' hs2
          go_wp2
          refine ⟨⟨j + 1, by omega, by go_num, ⟨_, rfl⟩, hbel⟩, by simp [intOf]; omega⟩
        · clear hs'
          go_wp2
          refine ⟨⟨k + 1, by omega, by go_num, ⟨_, rfl⟩, hbel⟩, by simp [intOf]; omega⟩
    · go_wp2
      go_ret
      exact ⟨_, rfl, fun _ => trivial, hbel⟩

end Go.Proofs.YteoljiclmhmbnaaDoor.K

/-
  The walks of what FnUserRecordsParts looks at: zzFits14, zzFits15, plainWord, plainRecords, line.
-/
set_option linter.unusedVariables false
set_option linter.unusedSimpArgs false
namespace Go.Proofs.YteoljiclmhmbnaaDoor.Tx
open Go.RowKit Go.Proofs.YteoljiclmhmbnaaDoor.K Go.Proofs.YteoljiclmhmbnaaDoorW.PrintWords

/-- A record's place in a list of records. -/
theorem recs_at {w : World} {A : Option Addr} {n : Nat} {xs : List Rec} (h : kRec.C w A n xs) : ∀ j (hj : j < xs.length), ∃ ad A1 c1 A2 c2, A = some ad ∧
    w.cell? (ad.add (j * 4)) = some (.string xs[j].1) ∧ w.cell? ⟨(ad.add (j * 4)).block, (ad.add (j * 4)).off + 1, none⟩ = some (.slice A1 xs[j].2.1.length c1) ∧
    w.cell? ⟨(ad.add (j * 4)).block, (ad.add (j * 4)).off + 2, none⟩ = some (.slice A2 xs[j].2.2.1.length c2) ∧ w.cell? ⟨(ad.add (j * 4)).block, (ad.add (j * 4)).off + 3, none⟩ = some (.string xs[j].2.2.2) ∧
    Kd.string.C w A1 xs[j].2.1.length xs[j].2.1 ∧ xs[j].2.1.length ≤ c1 ∧ Kd.string.C w A2 xs[j].2.2.1.length xs[j].2.2.1 ∧ xs[j].2.2.1.length ≤ c2 := by
  intro j hj
  obtain ⟨ad, hA, hc⟩ := h.2.2 (by have := h.1; omega)
  obtain ⟨c, hl, hk, hcell⟩ := hc j xs[j] (List.getElem?_eq_getElem hj)
  obtain ⟨_, _, rfl, rfl, _, _, rfl, ⟨A1, c1, rfl, h1, hC1⟩, _, _, rfl, ⟨A2, c2, rfl, h2, hC2⟩, rfl⟩ := hk
  have e : kRec.sz = 4 := rfl
  rw [e] at hcell
  have h0 := hcell 0 _ rfl
  have h1' := hcell 1 _ rfl
  have h2' := hcell 2 _ rfl
  have h3' := hcell 3 _ rfl
  rw [Nat.add_zero] at h0
  rw [add_field _ _ _ (by decide)] at h1' h2' h3'
  exact ⟨ad, A1, c1, A2, c2, hA, h0, h1', h2', h3', hC1, h1, hC2, h2⟩
/-- A record as it is handed on. -/
abbrev recV (u : Rec) (A1 A2 : Option Addr) (c1 c2 : Nat) : Value := .agg #[.string u.1, .slice A1 u.2.1.length c1, .slice A2 u.2.2.1.length c2, .string u.2.2.2]

set_option maxHeartbeats 1000000 in
theorem zzFits15_any (u : Rec) (A1 A2 : Option Addr) (c1 c2 : Nat) (w : World) (h1 : Kd.string.C w A1 u.2.1.length u.2.1) (h2 : Kd.string.C w A2 u.2.2.1.length u.2.2.1) :
    Calls Tryd.prog 36 #[recV u A1 A2 c1 c2] w (BoolIf (fitR u) w) := by
  obtain ⟨a, xs, ys, d⟩ := u
  have H1 := Lib.hid h1
  have H2 := Lib.hid h2
  clear h1 h2
  unfold recV
  go_enter Tryd.func36, Tryd.ntmps36
  by_cases ha : 2147483647 < a.size
  · go_wp2
    go_ret
    exact ⟨false, rfl, by simp, (Below.refl _ _).alloc (Nat.le_refl _) _⟩
  go_wp2_with fail
  refine (zzFits3_any A1 c1 xs _ (Kd.C_alloc H1.out _)).mono ?_
  rintro e w1 ⟨b, rfl, hb, hw1⟩
  have HB := Lib.hid hb
  have HL := Lib.hid (((Below.refl _ w).alloc (Nat.le_refl _) _).trans (hw1.mono (by simp)))
  obtain ⟨hc, hf⟩ : (∀ o, w1.cell? ⟨w.heap.size, o, none⟩ = (w.alloc (.cells #[.string a, .slice A1 xs.length c1, .slice A2 ys.length c2, .string d] 31)).cell? ⟨w.heap.size, o, none⟩) ∧ True := ⟨fun o => hw1.cell (p := ⟨w.heap.size, o, none⟩) (by simp), trivial⟩
  have g2 := hc 2
  have g3 := hc 3
  rw [cell_of_heap (heap_new w _)] at g2 g3
  replace g2 : w1.cell? ⟨w.heap.size, 2, none⟩ = some (.slice A2 ys.length c2) := g2
  replace g3 : w1.cell? ⟨w.heap.size, 3, none⟩ = some (.string d) := g3
  clear hb hw1 hc hf
  cases b
  · go_wp2
    go_ret
    exact ⟨false, rfl, by simp, HL.out⟩
  go_wp2_with fail
  refine (zzFits3_any A2 c2 ys _ (Kd.C_below H2.out HL.out)).mono ?_
  rintro e w2 ⟨b, rfl, hb2, hw2⟩
  have HB2 := Lib.hid hb2
  have g3' : w2.cell? ⟨w.heap.size, 3, none⟩ = some (.string d) := (hw2.cell (World.block_lt_of_cell? _ _ g3)).trans g3
  have HL2 := Lib.hid (HL.out.trans (hw2.mono HL.out.size))
  clear hb2 hw2 g2 g3
  cases b
  · go_wp2
    go_ret
    exact ⟨false, rfl, by simp, HL2.out⟩
  by_cases hd : 2147483647 < d.size
  · go_wp2
    go_ret
    exact ⟨false, rfl, by simp, HL2.out⟩
  go_wp2
  go_ret
  exact ⟨true, rfl, fun _ => ⟨by show a.size ≤ _; omega, by show d.size ≤ _; omega, (HB.out trivial).2, (HB2.out trivial).2⟩, HL2.out⟩

set_option maxHeartbeats 1000000 in
theorem zzFits14_any (A : Option Addr) (c : Nat) (xs : List Rec) (w : World) (hC : kRec.C w A xs.length xs) :
    Calls Tryd.prog 9 #[.slice A xs.length c] w (BoolIf (xs.length ≤ 2147483647 ∧ ∀ u ∈ xs, fitR u) w) := by
  have hm := hC.2.1
  have HC := Lib.hid hC
  clear hC
  go_enter Tryd.func9, Tryd.ntmps9
  by_cases hbig : 2147483647 < xs.length
  · go_wp2
    go_ret
    exact ⟨false, rfl, by simp, Below.refl _ _⟩
  go_wp2
  go_loopw [10] (fun i wr => ∃ k : Nat, k ≤ xs.length ∧ i = .int .i64 k ∧ Hid (∀ x ∈ xs.take k, fitR x) ∧ Below w.heap.size w wr) (fun i _ => xs.length - (intOf i).toNat)
  case atStart => exact ⟨0, Nat.zero_le _, rfl, Lib.hid (by simp), Below.refl _ _⟩
  case round =>
    obtain ⟨k, hk, rfl, hall, hbel⟩ := hrel
    by_cases hlt : k < xs.length
    · obtain ⟨ad, A1, c1, A2, c2, rfl, s0, s1, s2, s3, hC1, _, hC2, _⟩ := recs_at (Kd.C_below HC.out hbel) k hlt
      have HC1 := Lib.hid hC1
      have HC2 := Lib.hid hC2
      have hsz := hbel.size
      clear hC1 hC2
      have HX := Lib.hid (fun h => all_take hlt hall.out h)
      generalize xs[k] = u at *
      obtain ⟨a, ys, zs, d⟩ := u
      go_wp2_with fail
      refine (zzFits15_any (a, ys, zs, d) A1 A2 c1 c2 _ (Kd.C_alloc HC1.out _) (Kd.C_alloc HC2.out _)).mono ?_
      rintro e w1 ⟨b, rfl, hb, hw1⟩
      have HB := Lib.hid hb
      have HL := Lib.hid ((hbel.alloc hsz _).trans (hw1.mono (by simp; omega)))
      clear s0 s1 s2 s3 hb hw1 hbel
      cases b
      · go_wp2
        go_ret
        exact ⟨false, rfl, by simp, HL.out⟩
      · go_wp2
        refine ⟨⟨k + 1, by omega, by go_num, Lib.hid (HX.out (HB.out trivial)), HL.out⟩, by simp [intOf]; omega⟩
    · go_wp2
      go_ret
      obtain rfl : k = xs.length := by omega
      have := hall.out
      rw [List.take_length] at this
      exact ⟨true, rfl, fun _ => ⟨by omega, this⟩, hbel⟩

def BoolP (p : Prop) (w : World) (e : Ending) (w' : World) : Prop := ∃ b, e = .returned (.bool b) ∧ (b = true → p) ∧ w' = w
theorem toL_get (s : ByteArray) (k : Nat) (h : k < s.size) : (toL s)[k]'(by rw [toL_size]; exact h) = s[k] := by simp [toL, ByteArray.getElem_eq_getElem_data]
set_option maxHeartbeats 1000000 in
set_option maxRecDepth 5000 in
theorem plainWord_any (s : ByteArray) (w : World) (hs : s.size ≤ 4611686018427387904) :
    Calls Tryd.prog 37 #[.string s] w (BoolP (plainW s) w) := by
  go_enter Tryd.func37, Tryd.ntmps37
  go_wp2
  go_loopw [6] (fun i wr => ∃ k : Nat, k ≤ s.size ∧ i = .int .i64 k ∧ Hid (∀ c ∈ (toL s).take k, 32 < c.toNat ∧ c.toNat ≠ 44 ∧ c.toNat ≠ 35) ∧ wr = w) (fun i _ => s.size - (intOf i).toNat)
  case atStart => exact ⟨0, Nat.zero_le _, rfl, Lib.hid (by simp), rfl⟩
  case round =>
    obtain ⟨k, hk, rfl, hall, rfl⟩ := hrel
    by_cases hlt : k < s.size
    · have HX := Lib.hid (fun h => all_take (p := fun c : UInt8 => 32 < c.toNat ∧ c.toNat ≠ 44 ∧ c.toNat ≠ 35) (k := k) (xs := toL s) (by rw [toL_size]; exact hlt) hall.out h)
      rw [toL_get s k hlt] at HX
      by_cases h1 : ((s[k].toNat : Int)) ≤ 32
      · go_wp2
        go_ret
        exact ⟨false, rfl, by simp, rfl⟩
      by_cases h2 : ((s[k].toNat : Int)) = 44
      · have ht : (((s[k].toNat : Int)) == 44) = true := by simpa using h2
        clear h2
        go_wp2
        go_ret
        exact ⟨false, by simp, by simp, rfl⟩
      have ht2 : (((s[k].toNat : Int)) == 44) = false := by simpa using h2
      by_cases h3 : ((s[k].toNat : Int)) = 35
      · have ht : (((s[k].toNat : Int)) == 35) = true := by simpa using h3
        clear h2 h3
        go_wp2
        go_ret
        exact ⟨false, by simp, by simp, rfl⟩
      have ht3 : (((s[k].toNat : Int)) == 35) = false := by simpa using h3
      have HY := Lib.hid (HX.out ⟨by omega, by omega, by omega⟩)
      clear HX
      by_cases h4 : ((s[k].toNat : Int)) = 34
      · have ht : (((s[k].toNat : Int)) == 34) = true := by simpa using h4
        clear h2 h3 h4
        go_wp2
        go_ret
        exact ⟨false, by simp, by simp, rfl⟩
      have ht4 : (((s[k].toNat : Int)) == 34) = false := by simpa using h4
      clear h2 h3 h4
      by_cases h5 : (127 : Int) ≤ ((s[k].toNat : Int))
      · go_wp2
        go_ret
        exact ⟨false, by simp, by simp, rfl⟩
      go_wp2
      exact ⟨⟨k + 1, by omega, by go_num, HY, trivial⟩, by simp [intOf]; omega⟩
    · obtain rfl : k = s.size := by omega
      have h := hall.out
      rw [← toL_size, List.take_length] at h
      have HA := Lib.hid h
      clear h hall
      go_wp2
      go_ret
      refine ⟨_, rfl, fun hb => ⟨fun e0 => ?_, HA.out⟩, rfl⟩
      have h0 : s.toList = [] := by
        rw [ByteArray.toList_eq]
        exact List.eq_nil_of_length_eq_zero (by rw [Array.length_toList]; exact e0)
      simp [h0] at hb
end Go.Proofs.YteoljiclmhmbnaaDoor.Tx

/-
  A row of records of one's own, sorted by slices.SortStableFunc by their texts.
-/
set_option linter.unusedVariables false
set_option linter.unusedSimpArgs false
namespace Go.Proofs.YteoljiclmhmbnaaDoor.Tx
open Go.RowKit Go.Proofs.YteoljiclmhmbnaaDoor.K Go.Proofs.YteoljiclmhmbnaaDoorW.PrintWords
open Go.Sort (HoldsK Holds putRow putRowK mapBlock putCells onCells grow flatK SWO SortedIn PermIn ltStr get_flatK size_flatK)
open Go.Proofs.YteoljiclmhmbnaaDoor.St (stab)

abbrev tDR : Nat := 146
theorem ltC : ∀ (a b : List UInt8), decide (Lib.compareBytes a b < 0) = ltStr a b
  | [], [] => by simp [Lib.compareBytes, ltStr]
  | [], y :: b => by simp [Lib.compareBytes, ltStr]
  | x :: a, [] => by simp [Lib.compareBytes, ltStr]
  | x :: a, y :: b => by
    have ih := ltC a b
    unfold ltStr at ih ⊢
    rw [Lib.compareBytes]
    by_cases h1 : x < y
    · simp [h1, List.cons_lt_cons_iff]
    · by_cases h2 : y < x
      · have hne : x ≠ y := by rintro rfl; exact h1 h2
        simp [h1, h2, List.cons_lt_cons_iff, hne]
      · have he : x = y := UInt8.le_antisymm (UInt8.not_lt.1 h2) (UInt8.not_lt.1 h1)
        subst he
        simp only [h1, if_false]
        rw [ih]
        simp [List.cons_lt_cons_iff, UInt8.lt_irrefl]
theorem swo_key {α : Type} (key : α → List UInt8) : SWO fun i j => ltStr (key i) (key j) where
  irrefl x := Go.Sort.swo_ltStr.irrefl _
  trans x y z h1 h2 := Go.Sort.swo_ltStr.trans _ _ _ h1 h2
  ntrans x y z h1 h2 := Go.Sort.swo_ltStr.ntrans _ _ _ h1 h2

/-- The heap behind a sort. -/
theorem heap_sortedV {w : World} {g n : Nat} {os : Array Obj} {cur : Array Value} {e : TypeId} {fr : Nat × Nat} (F : Array Value) (hb : w.heap[g]? = some (.cells cur e fr)) :
    (grow (putRow id (Go.Sort.ahead w n) g 0 F) os).heap[g]? = some (.cells (putCells id 0 F cur) e fr) := by
  have hg : g < w.heap.size := (Array.getElem?_eq_some_iff.1 hb).1
  rw [Go.Sort.heap_grow_old _ _ (by simpa using hg)]
  simp [putRow, mapBlock, Go.Sort.ahead, Array.getElem?_modify, hb, onCells]
theorem heap_sortedN {w : World} {g n : Nat} {os : Array Obj} (F : Array Value) {k : Nat} (hk : k < w.heap.size) (hne : k ≠ g) :
    (grow (putRow id (Go.Sort.ahead w n) g 0 F) os).heap[k]? = w.heap[k]? := by
  rw [Go.Sort.heap_grow_old _ _ (by simpa using hk)]
  have : g ≠ k := fun e => hne e.symm
  simp [putRow, mapBlock, Go.Sort.ahead, Array.getElem?_modify, this]
theorem grownBy_sortedV {w : World} {g n : Nat} {os : Array Obj} (F : Array Value) : w.grownBy (grow (putRow id (Go.Sort.ahead w n) g 0 F) os) (some g) :=
  ⟨rfl, rfl, rfl, by simp, fun k hk hne => heap_sortedN F hk (fun e => hne (by rw [e]))⟩
theorem take_putCellsV (cur F : Array Value) (h : F.size ≤ cur.size) : (putCells id 0 F cur).toList.take F.size = F.toList := by
  apply List.ext_getElem?
  intro j
  by_cases hj : j < F.size
  · rw [List.getElem?_take_of_lt hj, Array.getElem?_toList]
    simp [putCells, hj, show j < cur.size by omega, getElem!_pos F j hj]
  · rw [List.getElem?_take_eq_none (by omega), List.getElem?_eq_none (by simp; omega)]
theorem holds_of_blockV {w : World} {g : Nat} {cur F : Array Value} {e : TypeId} (hb : w.heap[g]? = some (.cells cur e (0, 0))) (ht : cur.toList.take F.size = F.toList) : Holds id w g 0 F := by
  intro j hj
  refine ⟨?_, by simp [World.frozen?, hb]⟩
  have h1 : (cur.toList.take F.size)[j]? = F.toList[j]? := by rw [ht]
  rw [List.getElem?_take_of_lt hj] at h1
  simp only [World.cell?, hb, Nat.zero_add]
  simp only [Option.isSome_none, Bool.false_eq_true, if_false]
  rw [← Array.getElem?_toList, h1]
  simp [getElem!_pos F j hj, hj]

/-- The chunks of a row of cells. -/
def chunk (inner : List Value) (k n i : Nat) : List Value := (inner.drop (min i (n - 1) * k)).take k
theorem chunk_len {inner : List Value} {k n : Nat} (h : inner.length = n * k) (hn : 0 < n) (i : Nat) : (chunk inner k n i).length = k := by
  have : min i (n - 1) * k + k ≤ n * k := by rw [← Nat.succ_mul]; exact Nat.mul_le_mul_right _ (by omega)
  unfold chunk
  rw [List.length_take, List.length_drop]; omega
theorem flat_chunk {inner : List Value} {k n : Nat} (h : inner.length = n * k) (hk : 0 < k) : (flatK (chunk inner k n) k (Array.range n)).toList = inner := by
  apply List.ext_getElem?
  intro t
  rw [Array.getElem?_toList]
  by_cases ht : t < n * k
  · have hs : t < (flatK (chunk inner k n) k (Array.range n)).size := by rw [size_flatK]; simpa using ht
    have hq : t / k < n := by rw [Nat.div_lt_iff_lt_mul hk]; exact ht
    have hn : 0 < n := Nat.lt_of_le_of_lt (Nat.zero_le _) hq
    rw [Array.getElem?_eq_getElem hs, ← getElem!_pos _ t hs, get_flatK _ _ _ _ (by simpa using ht), St.get_range hq]
    have hl := chunk_len h hn (t / k)
    have hm : t % k < k := Nat.mod_lt _ hk
    rw [getElem!_pos _ _ (by rw [hl]; exact hm)]
    have e : min (t / k) (n - 1) = t / k := by omega
    have e2 : t / k * k + t % k = t := by rw [Nat.mul_comm]; exact Nat.div_add_mod t k
    simp only [chunk, e, List.getElem_take, List.getElem_drop, e2]
    rw [List.getElem?_eq_getElem (by rw [h]; exact ht)]
  · rw [Array.getElem?_eq_none (by rw [size_flatK]; simp; omega), List.getElem?_eq_none (by omega)]
theorem flat_get {enc : Nat → List Value} {k : Nat} {d : Array Nat} (hk : ∀ i, (enc i).length = k) {j : Nat} (hj : j < d.size) : ((flatK enc k d).toList.drop (j * k)).take k = enc d[j]! := by
  apply List.ext_getElem?
  intro t
  by_cases ht : t < k
  · have h1 : j * k + t < d.size * k := by
      have := Nat.mul_le_mul_right k (show j + 1 ≤ d.size from hj); rw [Nat.add_mul, Nat.one_mul] at this; omega
    have h2 : j * k + t < (flatK enc k d).size := by rw [size_flatK]; exact h1
    have e1 : (j * k + t) / k = j := (Go.Sort.blk_iff k j _ (by omega)).1 ⟨by omega, by omega⟩
    have e2 : (j * k + t) % k = t := by rw [Nat.mod_eq_sub_div_mul, e1]; omega
    rw [List.getElem?_take_of_lt ht, List.getElem?_drop, Array.getElem?_toList, Array.getElem?_eq_getElem h2, ← getElem!_pos (flatK enc k d) (j * k + t) h2, get_flatK _ _ _ _ h1, e1, e2, getElem!_pos (enc d[j]!) t (by rw [hk]; exact ht), List.getElem?_eq_getElem]
  · rw [List.getElem?_take_eq_none (by omega), List.getElem?_eq_none (by rw [hk]; omega)]
/-- A list in the order of numbers. -/
def pick {α : Type} [Inhabited α] (xs : List α) (d : Array Nat) : List α := d.toList.map fun i => xs.getD i default
theorem pick_length {α : Type} [Inhabited α] (xs : List α) (d : Array Nat) : (pick xs d).length = d.size := by simp [pick]
theorem pick_get {α : Type} [Inhabited α] (xs : List α) (d : Array Nat) (j : Nat) (hj : j < d.size) : (pick xs d)[j]? = some (xs.getD d[j]! default) := by
  simp [pick, hj, getElem!_pos d j hj]
theorem pick_range {α : Type} [Inhabited α] (xs : List α) : pick xs (Array.range xs.length) = xs := by
  apply List.ext_getElem?
  intro j
  by_cases hj : j < xs.length
  · rw [pick_get _ _ _ (by simpa using hj), St.get_range hj, List.getElem?_eq_getElem hj]
    simp [List.getD, hj]
  · rw [List.getElem?_eq_none (by rw [pick_length]; simp; omega), List.getElem?_eq_none (by omega)]
theorem stab_lt {lt : Nat → Nat → Bool} (h : SWO lt) {n j : Nat} (hj : j < n) : (stab lt n)[j]! < n :=
  Go.Sort.permIn_all (Array.range n) (stab lt n) 0 n (fun v => v < n) (by simp) (St.stab_perm h n) (fun i _ hi => by rw [St.get_range hi]; exact hi) j (Nat.zero_le _) hj
theorem pick_perm {α : Type} [Inhabited α] {lt : Nat → Nat → Bool} (h : SWO lt) (xs : List α) : (pick xs (stab lt xs.length)).Perm xs := by
  have h1 := (St.stab_perm h xs.length).2.2
  have e1 : (Array.range xs.length).extract 0 xs.length = Array.range xs.length := by simp
  have e2 : (stab lt xs.length).extract 0 xs.length = stab lt xs.length := by
    have : (stab lt xs.length).extract 0 (stab lt xs.length).size = stab lt xs.length := Array.extract_size
    rwa [St.stab_size h] at this
  rw [e1, e2] at h1
  have h2 := h1.map fun i => xs.getD i default
  have h3 : pick xs (Array.range xs.length) = xs := pick_range xs
  unfold pick at h3 ⊢
  rwa [h3] at h2
/-- Records in the order of their texts, equal ones as they come. -/
def keyR (xs : List Rec) (i : Nat) : List UInt8 := (xs.getD (min i (xs.length - 1)) default).1.data.toList
def ltR (xs : List Rec) (i j : Nat) : Bool := ltStr (keyR xs i) (keyR xs j)
theorem swo_ltR (xs : List Rec) : SWO (ltR xs) := swo_key (keyR xs)
def cfR (xs : List Rec) (i j : Nat) : Int := Lib.compareBytes (keyR xs i) (keyR xs j)
theorem ltOf_cfR (xs : List Rec) : ltOf (cfR xs) = ltR xs := by
  funext i j
  exact ltC _ _
def sortR (xs : List Rec) : List Rec := pick xs (stab (ltR xs) xs.length)
theorem sortR_length (xs : List Rec) : (sortR xs).length = xs.length := by rw [sortR, pick_length, St.stab_size (swo_ltR xs)]
theorem sortR_perm (xs : List Rec) : (sortR xs).Perm xs := pick_perm (swo_ltR xs) xs
theorem sortR_asc (xs : List Rec) : ∀ i j (hi : i < (sortR xs).length) (hj : j < (sortR xs).length), i < j → ¬ (sortR xs)[j].1.data.toList < (sortR xs)[i].1.data.toList := by
  intro i j hi hj hij
  have hl := sortR_length xs
  have hs := St.stab_size (swo_ltR xs) xs.length
  have h := St.stab_sorted (swo_ltR xs) xs.length i j (Nat.zero_le _) hij (by omega)
  have e : ∀ q (hq : q < (sortR xs).length), (sortR xs)[q] = xs.getD (stab (ltR xs) xs.length)[q]! default := fun q hq => by
    have := pick_get xs (stab (ltR xs) xs.length) q (by rw [hs]; omega)
    change (sortR xs)[q]? = _ at this
    rw [List.getElem?_eq_getElem hq] at this
    exact Option.some.inj this
  rw [e i hi, e j hj]
  have l1 := stab_lt (swo_ltR xs) (show i < xs.length by omega)
  have l2 := stab_lt (swo_ltR xs) (show j < xs.length by omega)
  replace h : ltStr (keyR xs _) (keyR xs _) = false := h
  unfold keyR ltStr at h
  rw [Nat.min_eq_left (show (stab (ltR xs) xs.length)[i]! ≤ xs.length - 1 by omega), Nat.min_eq_left (show (stab (ltR xs) xs.length)[j]! ≤ xs.length - 1 by omega)] at h
  exact of_decide_eq_false h

theorem cmp_box (w : World) (o1 o2 : Obj) : ∃ q os, (w.alloc o1).alloc o2 = grow (w.drewN q) os := ⟨0, #[o1] ++ #[o2], by
  rw [← Go.Sort.grow_grow, ← Go.Sort.alloc_eq_grow, ← Go.Sort.alloc_eq_grow]
  rfl⟩
set_option maxHeartbeats 1000000 in
theorem cmpRec_any (a b : ByteArray) (v1 v2 v3 u1 u2 u3 : Value) (w : World) :
    Calls Tryd.prog 62 #[.agg #[.string a, v1, v2, v3], .agg #[.string b, u1, u2, u3]] w fun e w' =>
      e = .returned (.int .i64 (Lib.compareBytes a.data.toList b.data.toList)) ∧ ∃ q os, w' = grow (w.drewN q) os := by
  go_enter Tryd.func62, Tryd.ntmps62
  go_wp2_with fail
  refine (Tryd.strings_Compare a b _).mono ?_
  rintro e w' ⟨rfl, rfl⟩
  go_wp2
  go_ret
  exact ⟨rfl, cmp_box _ _ _⟩

/-- The cells of a record of one's own. -/
theorem recM_cells {w : World} {base : Nat} {ok : Nat → Prop} {u : Rec} {cs : List Value} (h : kRec.M w base ok u cs) : ∃ v1 v2 v3, cs = [.string u.1, v1, v2, v3] := by
  have hk := kRec.K_of_M h
  have hl := kRec.K_len hk
  obtain ⟨c0, c1, rfl, h0, _⟩ := hk
  have : c0 = [.string u.1] := h0
  subst this
  have hl1 : c1.length = 3 := by
    have : kRec.sz = 4 := rfl
    simp [this] at hl
    omega
  match c1, hl1 with
  | [x, y, z], _ => exact ⟨x, y, z, rfl⟩

set_option maxHeartbeats 1000000 in
theorem sortStable_any {base : Nat} {ok : Nat → Prop} {v : Value} {xs : List Rec} {w : World} (hpos : 0 < xs.length) (h : kRec.R tDR w base ok v xs) (hlen : xs.length < 1152921504606846976) :
    Calls Tryd.prog 61 #[v, .func (.func 62) #[] #[]] w fun e w' =>
      e = .returned (.tuple #[]) ∧ kRec.R tDR w' base ok v (sortR xs) ∧ w.grownBy w' v.ownBlock := by
  obtain ⟨h0, inner, ho, hr⟩ := h
  have e4 : kRec.sz = 4 := rfl
  have hil : inner.length = xs.length * 4 := by rw [hr.1, e4]
  rcases ho.2 with ⟨_, hn⟩ | ⟨g, cap, cur, rfl, hb, hh, h1, h2, h3, h4⟩
  · omega
  have hgl := lt_of_heap hh
  have hF : flatK (chunk inner 4 xs.length) 4 (Array.range xs.length) = inner.toArray := Array.toList_inj.1 (by rw [flat_chunk hil (by decide)])
  have hz : (flatK (chunk inner 4 xs.length) 4 (Array.range xs.length)).size = xs.length * 4 := by rw [size_flatK]; simp
  have hH : HoldsK (chunk inner 4 xs.length) 4 w g 0 (Array.range xs.length) := by
    show Holds id w g 0 _
    refine holds_of_blockV hh ?_
    rw [hz, hF]
    rw [e4] at h4
    simpa using h4
  obtain ⟨ok', hok'⟩ : ∃ ok' : Nat → Prop, ok' = fun k => ok k ∧ some k ≠ (Value.slice (some ⟨g, 0, none⟩) xs.length cap).ownBlock := ⟨_, rfl⟩
  rw [← hok'] at hr
  have hch : ∀ i, kRec.M w base ok' (xs.getD (min i (xs.length - 1)) default) (chunk inner 4 xs.length i) := fun i => by
    have hj : min i (xs.length - 1) < xs.length := by omega
    have := hr.2 (min i (xs.length - 1)) _ (List.getElem?_eq_getElem hj)
    rw [e4] at this
    have e : xs.getD (min i (xs.length - 1)) default = xs[min i (xs.length - 1)] := by simp [List.getD, hj]
    rw [e]
    exact this
  have hR : RowK (chunk inner 4 xs.length) 4 w g 0 (Array.range xs.length) := ⟨fun i => chunk_len hil hpos i, fun x u hu => kRec.K_one (kRec.K_of_M (hch x)) u hu, hH, hgl⟩
  have hcmp : CmpLays Tryd.prog 62 #[] (chunk inner 4 xs.length) 4 (cfR xs) g 0 xs.length w := fun m os dk _ x y => by
    obtain ⟨v1, v2, v3, e1⟩ := recM_cells (hch x)
    obtain ⟨u1, u2, u3, e2⟩ := recM_cells (hch y)
    rw [e1, e2]
    exact cmpRec_any _ _ v1 v2 v3 u1 u2 u3 _
  have hst := Sr1.stable_any (chunk inner 4 xs.length) (cfR xs) 62 #[] (by rw [ltOf_cfR]; exact swo_ltR xs) g 0 cap w xs.length
    (Bears.enters (B := Tryd.f62) ⟨_, by decide, Tryd.func62⟩ rfl) hcmp hR hlen
  have HST := Lib.hid hst
  have HR := Lib.hid hr
  have HCH := Lib.hid hch
  have HH := Lib.hid hh
  have HOK := Lib.hid hok'
  have HIL := Lib.hid hil
  clear hst hcmp hR hH hz hF hr hch hok' h4
  go_enter Tryd.func61, Tryd.ntmps61
  go_wp2_with fail
  refine HST.out.mono ?_
  rintro e w' ⟨rfl, n', os, rfl⟩
  have HB := Lib.hid (grownBy_sortedV (w := w) (g := g) (n := n') (os := os) (flatK (chunk inner 4 xs.length) 4 (stab (ltOf (cfR xs)) xs.length)))
  have HV := Lib.hid (heap_sortedV (n := n') (os := os) (flatK (chunk inner 4 xs.length) 4 (stab (ltOf (cfR xs)) xs.length)) HH.out)
  have HN := Lib.hid (fun k hk hne => heap_sortedN (w := w) (g := g) (n := n') (os := os) (flatK (chunk inner 4 xs.length) 4 (stab (ltOf (cfR xs)) xs.length)) (k := k) hk hne)
  have hww : sortWorldK (chunk inner 4 xs.length) 4 w g 0 n' (stab (ltOf (cfR xs)) xs.length) os = grow (putRow id (Go.Sort.ahead w n') g 0 (flatK (chunk inner 4 xs.length) 4 (stab (ltOf (cfR xs)) xs.length))) os := rfl
  rw [hww]
  generalize grow (putRow id (Go.Sort.ahead w n') g 0 (flatK (chunk inner 4 xs.length) 4 (stab (ltOf (cfR xs)) xs.length))) os = w1 at HB HV HN
  clear hww
  go_wp2
  go_end0
  refine ⟨rfl, ?_, HB.out⟩
  have hV := HV.out
  have hN := HN.out
  have hil := HIL.out
  have hr := HR.out
  rw [ltOf_cfR] at hV
  have hds := St.stab_size (swo_ltR xs) xs.length
  have hfz : (flatK (chunk inner 4 xs.length) 4 (stab (ltR xs) xs.length)).size = xs.length * 4 := by rw [size_flatK, hds]
  have hsl := sortR_length xs
  have hok := HOK.out
  refine ⟨h0, (flatK (chunk inner 4 xs.length) 4 (stab (ltR xs) xs.length)).toList, ⟨by simp [hfz, hsl, e4], .inr ⟨g, cap, _, by rw [hsl], hb, hV, by rw [hsl]; exact h1, h2, by simpa [putCells] using h3, ?_⟩⟩, by simp [hfz, hsl, e4], ?_⟩
  · rw [hsl, e4, ← hfz]
    exact take_putCellsV _ _ (by rw [hfz, h3, e4]; exact Nat.mul_le_mul_right _ h1)
  · intro j p hp
    have hj : j < xs.length := by rw [← hsl]; exact (List.getElem?_eq_some_iff.1 hp).1
    have hjd : j < (stab (ltR xs) xs.length).size := by rw [hds]; exact hj
    have hg := pick_get xs (stab (ltR xs) xs.length) j hjd
    change (sortR xs)[j]? = _ at hg
    rw [hp] at hg
    have hpe := Option.some.inj hg
    have hlt := stab_lt (swo_ltR xs) hj
    have hm := HCH.out ((stab (ltR xs) xs.length)[j]!)
    rw [Nat.min_eq_left (show (stab (ltR xs) xs.length)[j]! ≤ xs.length - 1 by omega), ← hpe] at hm
    rw [e4, flat_get (fun i => chunk_len hil hpos i) hjd, ← hok]
    refine kRec.M_mono (fun k hk => hk.1) (kRec.M_move (fun k hk => hN k hk.2.2.1 ?_) (kRec.M_bound hm))
    obtain ⟨_, _, _, q, hq, cells, hc⟩ := hk
    refine typ_ne hc HH.out ?_
    rintro rfl
    exact absurd hq (by decide)
end Go.Proofs.YteoljiclmhmbnaaDoor.Tx

/-
  The walks of laws.plainRecords and laws.line.
-/
set_option linter.unusedVariables false
set_option linter.unusedSimpArgs false
namespace Go.Proofs.YteoljiclmhmbnaaDoor.Tx
open Go.RowKit Go.Proofs.YteoljiclmhmbnaaDoor.K Go.Proofs.YteoljiclmhmbnaaDoorW.PrintWords

theorem le30 {n : Nat} (h : (n : Int) ≤ 30) : n ≤ 30 := by omega
theorem big_ok {n : Nat} (h : n ≤ 20 * 2147483648) : n ≤ 4611686018427387904 := by omega
theorem rowL_ba (u : Rec) : u.1 ++ ⟨#[44]⟩ ++ pj 32 u.2.1 u.2.1.length ++ ⟨#[44]⟩ ++ pj 32 u.2.2.1 u.2.2.1.length ++ ⟨#[44]⟩ ++ u.2.2.2 ++ ⟨#[10]⟩ = ofL (rowL u ++ [10]) := by
  have e1 : u.1 = ofL (toL u.1) := (ofL_toL _).symm
  have e2 : u.2.2.2 = ofL (toL u.2.2.2) := (ofL_toL _).symm
  conv => lhs; rw [e1, e2]
  rw [pj, pj, List.take_length, List.take_length, show (⟨#[44]⟩ : ByteArray) = ofL [44] from rfl, show (⟨#[10]⟩ : ByteArray) = ofL [10] from rfl]
  simp only [ofL_append]
  congr 1
  simp [rowL]
theorem ret_str {a b : ByteArray} (h : a = b) : Ending.returned (.string a) = .returned (.string b) := by rw [h]
def LineRet (u : Rec) (w : World) (e : Ending) (w' : World) : Prop := e = .returned (.string (ofL (rowL u ++ [10]))) ∧ Below w.heap.size w w'

end Go.Proofs.YteoljiclmhmbnaaDoor.Tx

/-
  The walk of laws.same[string].
-/
set_option linter.unusedVariables false
set_option linter.unusedSimpArgs false
namespace Go.Proofs.YteoljiclmhmbnaaDoor.K
open Go.RowKit Go.Proofs.YteoljiclmhmbnaaDoorW.PrintWords

theorem atSameStr {w : World} {A : Option Addr} {n : Nat} {xs : List ByteArray} (h : (Kd.string).C w A n xs) : ∀ j (hj : j < xs.length), ∃ ad, A = some ad ∧ w.cell? (ad.add j) = some (Value.string xs[j]) := by
  intro j hj
  obtain ⟨ad, hA, hc⟩ := h.2.2 (by have := h.1; omega)
  obtain ⟨c, hl, hk, hcell⟩ := hc j xs[j] (List.getElem?_eq_getElem hj)
  have hk' : c = [Value.string xs[j]] := hk
  subst hk'
  have := hcell 0 _ rfl
  have e : (Kd.string).sz = 1 := rfl
  rw [e, Nat.mul_one, Nat.add_zero] at this
  exact ⟨ad, hA, this⟩

set_option maxHeartbeats 400000 in
theorem sameStr_any (A B : Option Addr) (c c' : Nat) (xs ys : List ByteArray) (w : World) (hC : (Kd.string).C w A xs.length xs) (hD : (Kd.string).C w B ys.length ys) :
    Calls Tryd.prog 58 #[.slice A xs.length c, .slice B ys.length c'] w fun e w' => e = .returned (.bool (decide (xs = ys))) ∧ Below w.heap.size w w' := by
  have hm := hC.2.1
  have hm' := hD.2.1
  have HC := Lib.hid hC
  have HD := Lib.hid hD
  clear hC hD
  go_enter Tryd.func58, Tryd.ntmps58
  by_cases hl : xs.length = ys.length
  rotate_left
  · have ht : ((xs.length : Int) != (ys.length : Int)) = true := by simp; omega
    have HL := Lib.hid hl
    clear hl
    go_wp2
    go_ret
    exact ⟨by rw [decide_eq_false (fun e => HL.out (by rw [e]))]; rfl, Below.refl _ _⟩
  have ht : ((xs.length : Int) != (ys.length : Int)) = false := by simp; omega
  have HL := Lib.hid hl
  clear hl
  go_wp2
  go_loopw [13] (fun i wr => ∃ k : Nat, k ≤ xs.length ∧ i = .int .i64 k ∧ Hid (xs.take k = ys.take k) ∧ Below w.heap.size w wr) (fun i _ => xs.length - (intOf i).toNat)
  case atStart => exact ⟨0, Nat.zero_le _, rfl, Lib.hid (by simp), Below.refl _ _⟩
  case round =>
    obtain ⟨k, hk, rfl, hall, hbel⟩ := hrel
    by_cases hlt : k < xs.length
    · have hlt' : k < ys.length := by have := HL.out; omega
      obtain ⟨ad, rfl, hs⟩ := atSameStr HC.out k hlt
      obtain ⟨bd, rfl, hs2⟩ := atSameStr HD.out k hlt'
      have hs' := (hbel.cell (World.block_lt_of_cell? w _ hs)).trans hs
      have hs2' := (hbel.cell (World.block_lt_of_cell? w _ hs2)).trans hs2
      clear hs hs2
      have p0 : (0 : Int) ≤ k := by omega
      have p1 : (k : Int) < (xs.length : Int) := by omega
      have p2 : (k : Int) < (ys.length : Int) := by omega
      by_cases hx : xs[k] = ys[k]
      · have hq : (xs[k].toList == ys[k].toList) = true := by rw [beq_iff_eq, hx]
        have hq2 : (xs[k].toList != ys[k].toList) = false := by rw [bne, hq]; rfl
        have HX := Lib.hid hx
        clear hx
        go_wp2
        go_quiet (fail)
        go_wp2
        refine ⟨⟨k + 1, by omega, by go_num, Lib.hid ?_, pw_below_drewN hbel _⟩, by simp [intOf]; omega⟩
        rw [List.take_succ_eq_append_getElem hlt, List.take_succ_eq_append_getElem hlt', hall.out, HX.out]
      · have hq : (xs[k].toList == ys[k].toList) = false := by rw [beq_eq_false_iff_ne]; exact fun e => hx (ba_toList e)
        have hq2 : (xs[k].toList != ys[k].toList) = true := by rw [bne, hq]; rfl
        have HX := Lib.hid hx
        clear hx
        go_wp2
        go_quiet (fail)
        go_wp2
        go_ret
        refine ⟨by rw [decide_eq_false (fun e => HX.out (by simp [e]))]; rfl, pw_below_drewN hbel _⟩
    · go_wp2
      go_ret
      obtain rfl : k = xs.length := by omega
      have h := hall.out
      rw [List.take_length, HL.out, List.take_length] at h
      exact ⟨by rw [decide_eq_true h]; rfl, hbel⟩
end Go.Proofs.YteoljiclmhmbnaaDoor.K

/-
  The walks of impl.UserRecords, laws.sameRecord, laws.sameRecords and laws.users.
-/
set_option linter.unusedVariables false
set_option linter.unusedSimpArgs false
namespace Go.Proofs.YteoljiclmhmbnaaDoor.Tx
open Go.RowKit Go.Proofs.YteoljiclmhmbnaaDoor.K Go.Proofs.YteoljiclmhmbnaaDoorW.PrintWords

theorem fixed_C {α : Type} {d : Kd α} {w0 w : World} {A : Option Addr} {n : Nat} {xs : List α} (h : (Kd.fixed d w0).C w A n xs) (hb : Below w0.heap.size w0 w) : d.C w A n xs :=
  ReadsRow.imp_ (R := (Kd.fixed d w0).K w) (R' := d.K w) h (Below.refl _ _) (fun _ _ hp => d.K_below hb hp)
theorem fix_info (w : World) : (Tryd.prog.info? 31).map (fun i => (i.zero, i.size, i.bytes)) = some (some (.agg #[.string ⟨#[]⟩, .slice none 0 0, .slice none 0 0, .string ⟨#[]⟩]), (Kd.fixed kRec w).sz, 80) := by
  show _ = some (some (Value.agg #[.string ⟨#[]⟩, .slice none 0 0, .slice none 0 0, .string ⟨#[]⟩]), 4, 80)
  kernel_rfl
theorem rec_K {w : World} {u : Rec} {A1 A2 : Option Addr} {c1 c2 : Nat} (h1 : Kd.string.C w A1 u.2.1.length u.2.1) (l1 : u.2.1.length ≤ c1) (h2 : Kd.string.C w A2 u.2.2.1.length u.2.2.1) (l2 : u.2.2.1.length ≤ c2) :
    kRec.K w u [.string u.1, .slice A1 u.2.1.length c1, .slice A2 u.2.2.1.length c2, .string u.2.2.2] :=
  ⟨[.string u.1], [.slice A1 u.2.1.length c1, .slice A2 u.2.2.1.length c2, .string u.2.2.2], rfl, rfl, [.slice A1 u.2.1.length c1], [.slice A2 u.2.2.1.length c2, .string u.2.2.2], rfl, ⟨A1, c1, rfl, l1, h1⟩, [.slice A2 u.2.2.1.length c2], [.string u.2.2.2], rfl, ⟨A2, c2, rfl, l2, h2⟩, rfl⟩

def UsersRet (l : List UInt8) (w : World) (e : Ending) (w' : World) : Prop :=
  match parse l with
  | some rs => ∃ A c, e = .returned (.tuple #[.slice A rs.length c, .int .i64 0]) ∧ rs.length ≤ c ∧ kRec.C w' A rs.length rs ∧ Below w.heap.size w w'
  | none => e = .returned (.tuple #[.slice none 0 0, .int .i64 1]) ∧ Below w.heap.size w w'

theorem box0 (w : World) (cs : Array Value) (t : TypeId) (o2 : Obj) (j : Nat) : ((w.alloc (.cells cs t)).alloc o2).cell? ⟨w.heap.size, j, none⟩ = cs[j]? := cell_of_heap (heap_old (heap_new w _) _) j
theorem box1 (w : World) (o1 : Obj) (cs : Array Value) (t : TypeId) (j : Nat) : ((w.alloc o1).alloc (.cells cs t)).cell? ⟨w.heap.size + 1, j, none⟩ = cs[j]? := by
  have h := heap_new (w.alloc o1) (.cells cs t)
  rw [size_alloc] at h
  exact cell_of_heap h j
theorem sameStr_true (A B : Option Addr) (c c' : Nat) (xs : List ByteArray) (w : World) (hC : Kd.string.C w A xs.length xs) (hD : Kd.string.C w B xs.length xs) :
    Calls Tryd.prog 58 #[.slice A xs.length c, .slice B xs.length c'] w fun e w' => e = .returned (.bool true) ∧ Below w.heap.size w w' :=
  (sameStr_any A B c c' xs xs w hC hD).mono fun e w' ⟨he, hb⟩ => ⟨he.trans (by simp), hb⟩
theorem parse_len {l : List UInt8} {rs : List Rec} (h : parse l = some rs) (hn : (rawL l).length ≤ 1099511627776) : rs.length ≤ 1099511627776 := by
  have h1 : rs.length = (texts l).length := by
    unfold parse at h
    generalize texts l = T at h
    clear hn
    induction T generalizing rs with
    | nil => simp at h; subst h; rfl
    | cons x r ih =>
      rw [List.mapM_cons] at h
      cases hx : parse1 x with
      | none => rw [hx] at h; simp at h
      | some y =>
        cases hr : r.mapM parse1 with
        | none => rw [hx, hr] at h; simp at h
        | some ys =>
          rw [hx, hr] at h
          simp at h
          subst h
          rw [List.length_cons, List.length_cons, ih hr]
  rw [h1]
  refine Nat.le_trans (List.length_filter_le _ _) ?_
  rw [List.length_map]
  exact hn

set_option maxHeartbeats 2000000 in
set_option maxRecDepth 5000 in
theorem sameRecord_eq (u : Rec) (A1 A2 B1 B2 : Option Addr) (c1 c2 d1 d2 : Nat) (w : World) (h1 : Kd.string.C w A1 u.2.1.length u.2.1) (h2 : Kd.string.C w A2 u.2.2.1.length u.2.2.1) (g1 : Kd.string.C w B1 u.2.1.length u.2.1) (g2 : Kd.string.C w B2 u.2.2.1.length u.2.2.1) :
    Calls Tryd.prog 42 #[recV u A1 A2 c1 c2, recV u B1 B2 d1 d2, .bool true] w fun e w' => e = .returned (.bool true) ∧ Below w.heap.size w w' := by
  obtain ⟨a, xs, ys, d⟩ := u
  have H1 := Lib.hid h1
  have H2 := Lib.hid h2
  have G1 := Lib.hid g1
  have G2 := Lib.hid g2
  clear h1 h2 g1 g2
  have hqa : (a.toList == a.toList) = true := by simp
  have hqd : (d.toList == d.toList) = true := by simp
  have HS1 := Lib.hid (fun W (hC : Kd.string.C W A1 xs.length xs) (hD : Kd.string.C W B1 xs.length xs) => sameStr_true A1 B1 c1 d1 xs W hC hD)
  have HS2 := Lib.hid (fun W (hC : Kd.string.C W A2 ys.length ys) (hD : Kd.string.C W B2 ys.length ys) => sameStr_true A2 B2 c2 d2 ys W hC hD)
  unfold recV
  show Calls _ _ #[.agg #[.string a, .slice A1 xs.length c1, .slice A2 ys.length c2, .string d], .agg #[.string a, .slice B1 xs.length d1, .slice B2 ys.length d2, .string d], .bool true] _ _
  go_enter Tryd.func42, Tryd.ntmps42
  go_wp2_with fail
  obtain ⟨o1, ho1⟩ : ∃ o, o = Obj.cells #[.string a, .slice A1 xs.length c1, .slice A2 ys.length c2, .string d] 31 := ⟨_, rfl⟩
  obtain ⟨o2, ho2⟩ : ∃ o, o = Obj.cells #[.string a, .slice B1 xs.length d1, .slice B2 ys.length d2, .string d] 31 := ⟨_, rfl⟩
  rw [← ho1, ← ho2]
  refine (HS1.out _ (Kd.C_alloc (Kd.C_alloc H1.out _) _) (Kd.C_alloc (Kd.C_alloc G1.out _) _)).mono ?_
  rintro e w1 ⟨rfl, hb1⟩
  have c2' : w1.cell? ⟨w.heap.size, 2, none⟩ = some (.slice A2 ys.length c2) := (hb1.cell (p := ⟨w.heap.size, 2, none⟩) (by simp; omega)).trans (by rw [ho1, box0]; rfl)
  have c3' : w1.cell? ⟨w.heap.size, 3, none⟩ = some (.string d) := (hb1.cell (p := ⟨w.heap.size, 3, none⟩) (by simp; omega)).trans (by rw [ho1, box0]; rfl)
  have e2' : w1.cell? ⟨w.heap.size + 1, 2, none⟩ = some (.slice B2 ys.length d2) := (hb1.cell (p := ⟨w.heap.size + 1, 2, none⟩) (by simp)).trans (by rw [ho2, box1]; rfl)
  have e3' : w1.cell? ⟨w.heap.size + 1, 3, none⟩ = some (.string d) := (hb1.cell (p := ⟨w.heap.size + 1, 3, none⟩) (by simp)).trans (by rw [ho2, box1]; rfl)
  have HB1 := Lib.hid ((((Below.refl _ w).alloc (Nat.le_refl _) o1).alloc (by simp) o2).trans (hb1.mono (by simp; omega)))
  have hsz1 := HB1.out.size
  clear hb1 ho1 ho2
  go_wp2_with fail
  refine (HS2.out _ (Kd.C_below H2.out HB1.out) (Kd.C_below G2.out HB1.out)).mono ?_
  rintro e w2 ⟨rfl, hb2⟩
  replace c3' := (hb2.cell (World.block_lt_of_cell? _ _ c3')).trans c3'
  replace e3' := (hb2.cell (World.block_lt_of_cell? _ _ e3')).trans e3'
  have HB2 := Lib.hid (HB1.out.trans (hb2.mono hsz1))
  clear hb2 c2' e2'
  go_wp2
  go_ret
  exact ⟨by simp, HB2.out⟩
end Go.Proofs.YteoljiclmhmbnaaDoor.Tx

/-
  Copies of lists of texts: slices.Clone at []string, and impl.copied.
-/
set_option linter.unusedVariables false
set_option linter.unusedSimpArgs false
namespace Go.Proofs.YteoljiclmhmbnaaDoor.K
open Go.RowKit Go.Proofs.YteoljiclmhmbnaaDoorW.PrintWords

set_option maxHeartbeats 400000 in
theorem clone_strs (A : Option Addr) (c : Nat) (xs : List ByteArray) (w : World) (hC : Kd.string.C w A xs.length xs) (hb : xs.length * 16 ≤ 140737488355328) :
    Calls Tryd.prog 60 #[.slice A xs.length c] w (RetRow Kd.string 9 xs w) := by
  have q := fun (w : World) (a : Option Addr) (n c n' c' : Nat) => Lib.run_eql_slice_nil (P := Tryd.prog) w _ _ a n c n' c' Tryd.underlying29
  have HC := Lib.hid hC
  clear hC
  rcases A with _ | ad
  · have h0 : xs = [] := by
      cases xs with
      | nil => rfl
      | cons x r => obtain ⟨ad, h, _⟩ := HC.out.2.2 (by simp); cases h
    subst h0
    go_enter Tryd.func60, Tryd.ntmps60
    go_wp2
    go_ret
    exact ⟨_, rfl, Kd.R_nil _ _ _ _ _, Below.refl _ _⟩
  · go_enter Tryd.func60, Tryd.ntmps60
    go_wp2_with (at_builtin; refine Kd.R_append_row (w0 := w) Value.string ByteArray.empty w.heap.size rfl _ _ 29 9 (.string ⟨#[]⟩) 16 rfl Tryd.underlying29 (by kernel_rfl) rfl (by decide) (.slice (some ⟨w.heap.size, 0, none⟩) 0 0) [] xs (some ad) xs.length c (fun _ => True) rfl rfl (fun _ _ => trivial) (R_empty _ _ _ _ (Nat.le_refl _)) (Kd.C_alloc HC.out _) ((Below.refl _ _).alloc (Nat.le_refl _) _) (by simp) (by simpa using hb) ?_)
    intro v1 w1 hR hB hg hat
    go_wp2
    go_ret
    exact ⟨v1, rfl, hR, hB⟩

end Go.Proofs.YteoljiclmhmbnaaDoor.K

/-
  impl.records: records as a user dictionary has them, in a row of its own.
-/
set_option linter.unusedVariables false
set_option linter.unusedSimpArgs false
namespace Go.Proofs.YteoljiclmhmbnaaDoor.Tx
open Go.RowKit Go.Proofs.YteoljiclmhmbnaaDoor.K Go.Proofs.YteoljiclmhmbnaaDoorW.PrintWords

section
variable {P : Program} {ops : Array Oper} {o : Oper} {a : Act} {Q : Exit → Act → World → Prop} {K : Act → World → Prop}
/-- append(v, p) at a step of a region that draws. -/
theorem kapp_step {α : Type} (d : Kd α) {w0 W : World} (base : Nat) (hw : Region.wanted o (yielded ops a.tmps) = true) (s x : Operand) (t e : TypeId) (z : Value) (bytes : Nat)
    (ho : o.op = .call { callee := .builtin .append, args := #[s, x], argTypes := #[t, t] })
    (ht : P.underlying t = some (.slice e)) (hinfo : (P.info? e).map (fun i => (i.zero, i.size, i.bytes)) = some (some z, d.sz, bytes)) (hz : z.cells.size = d.sz) (hs0 : 0 < d.sz) (hb0 : 0 < bytes)
    (v : Value) (xs : List α) (p : α) (cs : List Value) (ok okp : Nat → Prop) (g : Nat) (hs : a.eval s = v) (hx : a.eval x = .slice (some ⟨g, 0, none⟩) 1 1) (hg : ∀ j u, cs[j]? = some u → W.cell? ⟨g, j, none⟩ = some u)
    (hp : d.M W base okp p cs) (hokp : ∀ k, okp k → ok k ∧ some k ≠ v.ownBlock) (hfresh : ∀ k, W.heap.size ≤ k → ok k)
    (HO : d.R e W base ok v xs) (HB : Below base w0 W) (hbase : base ≤ W.heap.size) (hl : (xs.length + 1) * bytes ≤ 140737488355328)
    (h : ∀ v1 w1, d.R e w1 base ok v1 (xs ++ [p]) → Below base w0 w1 → W.grownBy w1 v.ownBlock → K (a.put o.dst v1) w1) :
    if Region.wanted o (yielded ops a.tmps) = true then Oper.wp P o a W K Q else K (a.put o.dst undef) W := by
  rw [if_pos hw]
  obtain ⟨i0, hi, hzz⟩ := Option.map_eq_some_iff.1 hinfo
  simp only [Prod.mk.injEq] at hzz
  obtain ⟨hz0, hz1, hz2⟩ := hzz
  have hlen : xs.length + 1 ≤ 140737488355328 := Nat.le_trans (Nat.le_mul_of_pos_right _ hb0) hl
  obtain ⟨h0, inner, hown, hr⟩ := HO
  have hcl : cs.length = d.sz := d.K_len (d.K_of_M hp)
  obtain ⟨v1, w1, hrun, hown1, hgr, _, hat⟩ := run_append_own_at (P := P) W base t o.type e i0 z d.sz bytes ht hi hz0 hz1 hz2 hz hs0 v xs.length inner hown ⟨g, 0, none⟩ 1 1 cs (by omega)
    (by
      intro j u hj
      have := hg j u hj
      rcases Nat.eq_zero_or_pos j with rfl | hj0
      · simpa [Addr.add] using this
      · rw [Addr.add]; simp; rw [if_neg (by omega)]; exact this)
    (d.K_one (d.K_of_M hp)) (by simp only [maxLen]; omega) hl (by omega)
  have hat' : v1.ownBlock = v.ownBlock ∨ ∃ b, v1.ownBlock = some b ∧ W.heap.size ≤ b := by
    rcases hat with hat | hat
    · exact .inl hat
    · exact .inr ⟨_, hat, Nat.le_refl _⟩
  unfold Oper.wp execOp
  simp only [ho, resolve, invoke, builtin, Sem.run_bind, Sem.run_pure, Result.andThen_ok, List.map_toArray, List.map_cons, List.map_nil, hs, hx, hrun]
  exact h v1 w1 (Kd.R_appended h0 hr hp hokp hfresh hown1 hgr hat') (HB.grown hgr hbase (own_base hown)) hgr
end

theorem hid_tr {w0 w w' : World} (h : Hid (Below w0.heap.size w0 w)) (h' : Below w.heap.size w w') : Hid (Below w0.heap.size w0 w') := Lib.hid (h.out.trans (h'.mono h.out.size))
theorem hid_dr {w0 w : World} (h : Hid (Below w0.heap.size w0 w)) : Hid (Below w0.heap.size w0 w.drew) := Lib.hid (pw_below_drewN h.out 1)
theorem hid_al {w0 w : World} (h : Hid (Below w0.heap.size w0 w)) (o : Obj) : Hid (Below w0.heap.size w0 (w.alloc o)) := Lib.hid (h.out.alloc h.out.size o)
theorem keep4 {w5 w' : World} {b : Nat} {x0 x1 x2 x3 : Value} (q0 : w5.cell? ⟨b, 0, none⟩ = some x0) (q1 : w5.cell? ⟨b, 1, none⟩ = some x1) (q2 : w5.cell? ⟨b, 2, none⟩ = some x2) (q3 : w5.cell? ⟨b, 3, none⟩ = some x3) (h : Hid (Below w5.heap.size w5 w')) :
    w'.cell? ⟨b, 0, none⟩ = some x0 ∧ w'.cell? ⟨b, 1, none⟩ = some x1 ∧ w'.cell? ⟨b, 2, none⟩ = some x2 ∧ w'.cell? ⟨b, 3, none⟩ = some x3 :=
  ⟨(h.out.cell (World.block_lt_of_cell? _ _ q0)).trans q0, (h.out.cell (World.block_lt_of_cell? _ _ q1)).trans q1, (h.out.cell (World.block_lt_of_cell? _ _ q2)).trans q2, (h.out.cell (World.block_lt_of_cell? _ _ q3)).trans q3⟩
theorem dr_info : (Tryd.prog.info? tDR).map (fun i => (i.zero, i.size, i.bytes)) = some (some (.agg #[.string ⟨#[]⟩, .slice none 0 0, .slice none 0 0, .string ⟨#[]⟩]), kRec.sz, 80) := by
  show _ = some (some (Value.agg #[.string ⟨#[]⟩, .slice none 0 0, .slice none 0 0, .string ⟨#[]⟩]), 4, 80)
  kernel_rfl
theorem clone_fit {w5 W w6 : World} {v : Value} {ys : List ByteArray} (hb : Hid (Below w5.heap.size w5 W)) (h : Kd.string.R 9 w6 W.heap.size (fun _ => True) v ys) :
    Hid (Kd.string.R 9 w6 w5.heap.size (fun q => w5.heap.size ≤ q) v ys) :=
  Lib.hid (Kd.R_lower (Kd.R_mono (Kd.R_bound h) (fun _ hk => Nat.le_trans hb.out.size hk.2.1)) hb.out.size)
section
variable {ops : Array Oper} {o : Oper} {a : Act} {Q : Exit → Act → World → Prop} {K : Act → World → Prop}
theorem app_rec {w w5 w7 : World} {v v1 v2 : Value} {l : List Rec} {x d : ByteArray} {ys zs : List ByteArray} (hw : Region.wanted o (yielded ops a.tmps) = true) (s y : Operand)
    (ho : o.op = .call { callee := .builtin .append, args := #[s, y], argTypes := #[84, 84] })
    (h5 : Hid (kRec.R tDR w5 w.heap.size (fun _ => True) v l)) (hb5 : Hid (Below w.heap.size w w5)) (hb7 : Hid (Below w5.heap.size w5 w7)) (r1 : Hid (Kd.string.R 9 w7 w5.heap.size (fun q => w5.heap.size ≤ q) v1 ys)) (r2 : Hid (Kd.string.R 9 w7 w5.heap.size (fun q => w5.heap.size ≤ q) v2 zs))
    (hl : (l.length + 1) * 80 ≤ 140737488355328) (hs : a.eval s = v) (hx : a.eval y = .slice (some ⟨w7.heap.size, 0, none⟩) 1 1)
    (h : ∀ v' w8, Hid (kRec.R tDR w8 w.heap.size (fun _ => True) v' (l ++ [(x, ys, zs, d)])) → Hid (Below w.heap.size w w8) → (∀ (b j : Nat) (y : Value), (∀ q, v.ownBlock = some q → q < b) → w5.cell? ⟨b, j, none⟩ = some y → w8.cell? ⟨b, j, none⟩ = some y) → K (a.put o.dst v') w8) :
    if Region.wanted o (yielded ops a.tmps) = true then Oper.wp Tryd.prog o a (w7.alloc (.cells #[.string x, v1, v2, .string d] tDR)) K Q else K (a.put o.dst undef) (w7.alloc (.cells #[.string x, v1, v2, .string d] tDR)) := by
  have hz5 := hb5.out.size
  have hz7 := hb7.out.size
  refine kapp_step (w0 := w) kRec w.heap.size hw s y 84 tDR (.agg #[.string ⟨#[]⟩, .slice none 0 0, .slice none 0 0, .string ⟨#[]⟩]) 80 ho Tryd.underlying84 dr_info rfl rec_pos (by decide) v l (x, ys, zs, d) [.string x, v1, v2, .string d] (fun _ => True) (fun q => w5.heap.size ≤ q) w7.heap.size hs hx
    ?_ (rec_M (Kd.R_lower (Kd.R_alloc r1.out _) hz5) (Kd.R_lower (Kd.R_alloc r2.out _) hz5)) ?_ (fun _ _ => trivial) (Kd.R_alloc (Kd.R_below h5.out hb7.out) _) ((hb5.out.trans (hb7.out.mono hz5)).alloc (by omega) _) (by simp; omega) hl (fun v' w8 g1 g2 g3 => h v' w8 (Lib.hid g1) (Lib.hid g2) (fun b j y hv hc => ?_))
  · intro j u hj
    rw [cell_of_heap (heap_new w7 _)]
    simpa using hj
  · intro q hq
    refine ⟨trivial, fun e => ?_⟩
    have := (own_lt (Kd.R_own h5.out).choose_spec q e.symm)
    omega
  · have h1 := (hb7.out.cell (World.block_lt_of_cell? _ _ hc)).trans hc
    have hl1 := World.block_lt_of_cell? _ _ h1
    have h2 : (w7.alloc (.cells #[.string x, v1, v2, .string d] tDR)).cell? ⟨b, j, none⟩ = some y := by
      have hb := Below.cell ((Below.refl w7.heap.size w7).alloc (Nat.le_refl _) (.cells #[.string x, v1, v2, .string d] tDR)) (p := ⟨b, j, none⟩) hl1
      exact hb.trans h1
    have hne : some b ≠ v.ownBlock := fun e => absurd (hv b e.symm) (Nat.lt_irrefl b)
    exact g3.cell h2 hne
end

set_option maxHeartbeats 4000000 in
set_option maxRecDepth 5000 in
theorem implRecords_any (A : Option Addr) (c : Nat) (xs : List Rec) (w : World) (hC : kRec.C w A xs.length xs) (hb : ∀ u ∈ xs, u.2.1.length * 16 ≤ 140737488355328 ∧ u.2.2.1.length * 16 ≤ 140737488355328) (hb' : xs.length * 80 ≤ 140737488355328) :
    Calls Tryd.prog 39 #[.slice A xs.length c] w (RetRow kRec tDR xs w) := by
  have HC := Lib.hid hC
  have HB := Lib.hid hb
  clear hC hb
  go_enter Tryd.func39, Tryd.ntmps39
  go_wp2
  go_loopw [3, 8] (fun v i wr => ∃ k : Nat, k ≤ xs.length ∧ i = .int .i64 k ∧ Hid (kRec.R tDR wr w.heap.size (fun _ => True) v (xs.take k)) ∧ Hid (Below w.heap.size w wr)) (fun _ i _ => xs.length - (intOf i).toNat)
  case atStart => exact ⟨0, Nat.zero_le _, rfl, Lib.hid (Kd.R_nil _ _ _ _ _), Lib.hid (Below.refl _ _)⟩
  case round =>
    obtain ⟨k, hk, rfl, hR, hbel⟩ := hrel
    have hszr := hbel.out.size
    by_cases hlt : k < xs.length
    · obtain ⟨ad, A1, c1, A2, c2, rfl, s0, s1, s2, s3, g1, _, g2, _⟩ := recs_at (Kd.C_below HC.out hbel.out) k hlt
      have hbu := HB.out _ (List.getElem_mem hlt)
      have HT := Lib.hid (List.take_succ_eq_append_getElem hlt)
      have htl : (xs.take k).length = k := by rw [List.length_take]; omega
      generalize xs[k] = u at *
      obtain ⟨a, ys, zs, d⟩ := u
      obtain ⟨hb1, hb2⟩ := hbu
      have HTL := Lib.hid htl
      have G1 := Lib.hid g1
      have G2 := Lib.hid g2
      have HB1 := Lib.hid hb1
      have HB2 := Lib.hid hb2
      clear htl g1 g2 hb1 hb2
      go_upto_region 5 with fail
      have q0 : (wr.alloc (.cells #[.string a, .slice A1 ys.length c1, .slice A2 zs.length c2, .string d] 31)).cell? ⟨wr.heap.size, 0, none⟩ = some (.string a) := by rw [cell_of_heap (heap_new wr _)]; rfl
      have q1 : (wr.alloc (.cells #[.string a, .slice A1 ys.length c1, .slice A2 zs.length c2, .string d] 31)).cell? ⟨wr.heap.size, 1, none⟩ = some (.slice A1 ys.length c1) := by rw [cell_of_heap (heap_new wr _)]; rfl
      have q2 : (wr.alloc (.cells #[.string a, .slice A1 ys.length c1, .slice A2 zs.length c2, .string d] 31)).cell? ⟨wr.heap.size, 2, none⟩ = some (.slice A2 zs.length c2) := by rw [cell_of_heap (heap_new wr _)]; rfl
      have q3 : (wr.alloc (.cells #[.string a, .slice A1 ys.length c1, .slice A2 zs.length c2, .string d] 31)).cell? ⟨wr.heap.size, 3, none⟩ = some (.string d) := by rw [cell_of_heap (heap_new wr _)]; rfl
      have H5R := Lib.hid (Kd.R_alloc hR.out (.cells #[.string a, .slice A1 ys.length c1, .slice A2 zs.length c2, .string d] 31))
      have H5B := hid_al hbel (.cells #[.string a, .slice A1 ys.length c1, .slice A2 zs.length c2, .string d] 31)
      have H5C1 := Lib.hid (Kd.C_alloc G1.out (.cells #[.string a, .slice A1 ys.length c1, .slice A2 zs.length c2, .string d] 31))
      have H5C2 := Lib.hid (Kd.C_alloc G2.out (.cells #[.string a, .slice A1 ys.length c1, .slice A2 zs.length c2, .string d] 31))
      have hvb := Lib.hid (fun q e => ((own_lt (Kd.R_own hR.out).choose_spec q e) : q < wr.heap.size))
      clear s0 s1 s2 s3 G1 G2 hR hbel
      generalize wr.alloc (.cells #[.string a, .slice A1 ys.length c1, .slice A2 zs.length c2, .string d] 31) = w5 at q0 q1 q2 q3 H5R H5B H5C1 H5C2 ⊢
      generalize wr.heap.size = b at q0 q1 q2 q3 hszr hvb ⊢
      have HC1 := Lib.hid (fun (W : World) (h : Hid (Below w5.heap.size w5 W)) => clone_strs A1 c1 ys W (Kd.C_below H5C1.out h.out) HB1.out)
      have HC2 := Lib.hid (fun (W : World) (h : Hid (Below w5.heap.size w5 W)) => clone_strs A2 c2 zs W (Kd.C_below H5C2.out h.out) HB2.out)
      have H5 : Hid (Below w5.heap.size w5 w5) := Lib.hid (Below.refl _ _)
      have hl5 : ((xs.take k).length + 1) * 80 ≤ 140737488355328 := by rw [HTL.out]; omega
      clear H5C1 H5C2
      go_region_held3 (fun w' => w'.cell? ⟨b, 0, none⟩ = some (.string a) ∧ w'.cell? ⟨b, 1, none⟩ = some (.slice A1 ys.length c1) ∧ w'.cell? ⟨b, 2, none⟩ = some (.slice A2 zs.length c2) ∧ w'.cell? ⟨b, 3, none⟩ = some (.string d))
        (first
          | with_reducible assumption
          | (refine keep4 q0 q1 q2 q3 ?_; (first
            | with_reducible assumption
            | (repeat' (first | with_reducible assumption | refine hid_dr ?_ | refine hid_al ?_ _)))))
        (first
          | (go_at_call 60; go_split_ands; (with_reducible refine (HC1.out _ (hid_dr H5)).mono ?_); rintro e w6 ⟨v6, rfl, hR6, hB6⟩; obtain ⟨A6, c6, rfl⟩ := Kd.R_slice hR6; have HR6 := clone_fit (hid_dr H5) hR6; have HB6 := hid_tr (hid_dr H5) hB6; clear hR6 hB6)
          | (go_at_call 60; go_split_ands; (with_reducible refine (HC2.out _ HB6).mono ?_); rintro e w7 ⟨v7, rfl, hR7, hB7⟩; obtain ⟨A7, c7, rfl⟩ := Kd.R_slice hR7; have HR7 := clone_fit HB6 hR7; have HB7 := hid_tr HB6 hB7; have HR67 := Lib.hid (Kd.R_below HR6.out hB7); clear hR7 hB7)
          | (refine app_rec (w := w) (w5 := w5) (by rfl) (.tmp 12) (.tmp 24) rfl H5R H5B HB7 HR67 HR7 hl5 rfl rfl ?_; intro v8 w8 HR8 HB8 hg8; have hg8 := (⟨hg8 b 0 _ hvb.out q0, hg8 b 1 _ hvb.out q1, hg8 b 2 _ hvb.out q2, hg8 b 3 _ hvb.out q3⟩ : w8.cell? ⟨b, 0, none⟩ = some (.string a) ∧ w8.cell? ⟨b, 1, none⟩ = some (.slice A1 ys.length c1) ∧ w8.cell? ⟨b, 2, none⟩ = some (.slice A2 zs.length c2) ∧ w8.cell? ⟨b, 3, none⟩ = some (.string d))))
      all_goals
        go_wp2
        exact ⟨⟨k + 1, by omega, by go_num, Lib.hid (by rw [HT.out]; exact HR8.out), HB8⟩, by simp [intOf]; omega⟩
    · obtain rfl : k = xs.length := by omega
      have h := hR.out
      rw [List.take_length] at h
      have HH := Lib.hid h
      clear h
      go_wp2
      go_ret
      exact ⟨_, rfl, HH.out, hbel.out⟩
end Go.Proofs.YteoljiclmhmbnaaDoor.Tx

/-
  A double array, plain: its cells, the ring of its free cells, what taking a cell and growing do to it.
-/
set_option linter.unusedVariables false
set_option linter.unusedSimpArgs false
namespace Go.Proofs.YteoljiclmhmbnaaDoor.Da

theorem least {P : Nat → Prop} : ∀ n, P n → ∃ m, P m ∧ ∀ k, P k → m ≤ k := by
  intro n
  induction n using Nat.strongRecOn with
  | ind n ih =>
    intro h
    by_cases hx : ∃ k, P k ∧ k < n
    · obtain ⟨k, hk, hl⟩ := hx
      exact ih k hl hk
    · exact ⟨n, h, fun k hk => Nat.le_of_not_lt fun hl => hx ⟨k, hk, hl⟩⟩
theorem most {P : Nat → Prop} (N : Nat) (hb : ∀ k, P k → k < N) (n : Nat) (h : P n) : ∃ m, P m ∧ ∀ k, P k → k ≤ m := by
  obtain ⟨m, ⟨a, ha, rfl⟩, hm⟩ := least (P := fun j => ∃ k, P k ∧ j = N - k) (N - n) ⟨n, h, rfl⟩
  refine ⟨a, ha, fun k hk => ?_⟩
  have := hm (N - k) ⟨k, hk, rfl⟩
  have := hb k hk
  have := hb a ha
  omega

structure DA where
  n : Nat
  b : Nat → Int
  c : Nat → Int
def upd (f : Nat → Int) (i : Nat) (v : Int) : Nat → Int := fun j => if j = i then v else f j
theorem upd_same (f : Nat → Int) (i : Nat) (v : Int) : upd f i v i = v := by simp [upd]
theorem upd_ne (f : Nat → Int) {i j : Nat} (v : Int) (h : j ≠ i) : upd f i v j = f j := by simp [upd, h]

/-- A free cell; a cell that is used (0 is the root). -/
def Fr (A : DA) (i : Nat) : Prop := 0 < i ∧ i < A.n ∧ A.c i < 0
def Us (A : DA) (i : Nat) : Prop := i < A.n ∧ (i = 0 ∨ 0 ≤ A.c i)
theorem fr_or_us {A : DA} {i : Nat} (h : i < A.n) : Fr A i ∨ Us A i := by
  unfold Fr Us
  by_cases h0 : i = 0
  · exact .inr ⟨h, .inl h0⟩
  · by_cases hc : A.c i < 0
    · exact .inl ⟨by omega, h, hc⟩
    · exact .inr ⟨h, .inr (by omega)⟩
theorem fr_not_us {A : DA} {i : Nat} (h : Fr A i) : ¬ Us A i := by
  unfold Fr at h; unfold Us
  omega
def First (A : DA) (f : Nat) : Prop := Fr A f ∧ ∀ r, Fr A r → f ≤ r
def Last (A : DA) (l : Nat) : Prop := Fr A l ∧ ∀ r, Fr A r → r ≤ l
/-- q stands behind p in the ring of free cells. -/
def Nx (A : DA) (p q : Nat) : Prop := Fr A p ∧ Fr A q ∧ ((p < q ∧ ∀ r, Fr A r → r ≤ p ∨ q ≤ r) ∨ ((∀ r, Fr A r → r ≤ p) ∧ ∀ r, Fr A r → q ≤ r))

structure Inv (A : DA) (M : Nat) : Prop where
  big : 51200 ≤ A.n
  bound : A.n ≤ 51200 ∨ A.n ≤ 2 * (M + 3)
  cap : M ≤ 268435456
  us : ∀ i, Us A i → i ≤ M
  b0 : A.b 0 = 1
  some : ∃ i, Fr A i
  ring : ∀ p q, Nx A p q → A.c p = -(q : Int) ∧ A.b q = -(p : Int)
  c0 : ∀ f, First A f → A.c 0 = -(f : Int)
  rb : ∀ i, i < A.n → -2147483647 ≤ A.b i ∧ A.b i ≤ 2147483647
  rc : ∀ i, i < A.n → -2147483647 ≤ A.c i ∧ A.c i ≤ 2147483647

theorem Inv.size {A : DA} {M : Nat} (h : Inv A M) : A.n ≤ 536870918 := by
  have := h.bound; have := h.cap; omega
theorem Inv.mono {A : DA} {M M' : Nat} (h : Inv A M) (hm : M ≤ M') (hc : M' ≤ 268435456) : Inv A M' :=
  { h with
    bound := by have := h.bound; omega
    cap := hc
    us := fun i hi => Nat.le_trans (h.us i hi) hm }
theorem fr_lt {A : DA} {i : Nat} (h : Fr A i) : i < A.n := h.2.1
theorem Inv.first {A : DA} {M : Nat} (h : Inv A M) : ∃ f, First A f := by
  obtain ⟨i, hi⟩ := h.some
  exact least i hi
theorem Inv.last {A : DA} {M : Nat} (h : Inv A M) : ∃ f, Last A f := by
  obtain ⟨i, hi⟩ := h.some
  exact most A.n (fun _ => fr_lt) i hi
theorem Inv.next {A : DA} {M : Nat} (h : Inv A M) {p : Nat} (hp : Fr A p) : ∃ q, Nx A p q := by
  by_cases hx : ∃ r, Fr A r ∧ p < r
  · obtain ⟨r, hr⟩ := hx
    obtain ⟨q, ⟨hq, hpq⟩, hl⟩ := least (P := fun r => Fr A r ∧ p < r) r hr
    refine ⟨q, hp, hq, .inl ⟨hpq, fun s hs => ?_⟩⟩
    by_cases hsp : s ≤ p
    · exact .inl hsp
    · exact .inr (hl s ⟨hs, by omega⟩)
  · obtain ⟨f, hf, hl⟩ := h.first
    exact ⟨f, hp, hf, .inr ⟨fun r hr => Nat.le_of_not_lt fun hh => hx ⟨r, hr, hh⟩, hl⟩⟩
theorem Inv.prev {A : DA} {M : Nat} (h : Inv A M) {q : Nat} (hq : Fr A q) : ∃ p, Nx A p q := by
  by_cases hx : ∃ r, Fr A r ∧ r < q
  · obtain ⟨r, hr⟩ := hx
    obtain ⟨p, ⟨hp, hpq⟩, hl⟩ := most (P := fun r => Fr A r ∧ r < q) A.n (fun k hk => fr_lt hk.1) r hr
    refine ⟨p, hp, hq, .inl ⟨hpq, fun s hs => ?_⟩⟩
    by_cases hsp : s < q
    · exact .inl (hl s ⟨hs, hsp⟩)
    · exact .inr (by omega)
  · obtain ⟨f, hf, hl⟩ := h.last
    exact ⟨f, hf, hq, .inr ⟨hl, fun r hr => Nat.le_of_not_lt fun hh => hx ⟨r, hr, hh⟩⟩⟩
theorem Inv.top {A : DA} {M : Nat} (h : Inv A M) {i : Nat} (h1 : M < i) (h2 : i < A.n) : Fr A i := by
  rcases fr_or_us h2 with hf | hu
  · exact hf
  · have := h.us i hu
    omega

/-- A free cell leaves the ring. -/
def take (A : DA) (p : Nat) (v : Int) : DA :=
  { n := A.n
    b := upd A.b (-A.c p).toNat (A.b p)
    c := upd (upd (if -(p : Int) = A.c 0 then upd A.c 0 (A.c p) else A.c) (-A.b p).toNat (A.c p)) p v }

section
variable {A : DA} {M p : Nat} {v : Int}
theorem take_c0 (h : Inv A M) (hp : Fr A p) (r s : Nat) (hr : Nx A r p) (hs : Nx A p s) (i : Nat) (hi : i ≠ 0) : (take A p v).c i = if i = p then v else if i = r then -(s : Int) else A.c i := by
  have e1 := (h.ring _ _ hr).2
  have e2 := (h.ring _ _ hs).1
  unfold take
  simp only
  rw [e1, e2]
  simp only [Int.neg_neg, Int.toNat_natCast]
  unfold upd
  by_cases h1 : i = p
  · simp [h1]
  · by_cases h2 : i = r
    · simp [h1, h2]
    · simp [h1, h2]
      split <;> simp [hi]
theorem take_b0 (h : Inv A M) (hp : Fr A p) (r s : Nat) (hr : Nx A r p) (hs : Nx A p s) (i : Nat) : (take A p v).b i = if i = s then -(r : Int) else A.b i := by
  have e1 := (h.ring _ _ hr).2
  have e2 := (h.ring _ _ hs).1
  unfold take
  simp only
  rw [e1, e2]
  simp only [Int.neg_neg, Int.toNat_natCast]
  rfl
theorem nx_inj (h : Inv A M) {p q q' : Nat} (h1 : Nx A p q) (h2 : Nx A p q') : q = q' := by
  have := (h.ring _ _ h1).1
  have := (h.ring _ _ h2).1
  omega
theorem nx_inj' (h : Inv A M) {p p' q : Nat} (h1 : Nx A p q) (h2 : Nx A p' q) : p = p' := by
  have := (h.ring _ _ h1).2
  have := (h.ring _ _ h2).2
  omega
theorem take_fr (h : Inv A M) (hp : Fr A p) (hne : A.b p ≠ A.c p) (hv : 0 ≤ v) (i : Nat) : Fr (take A p v) i ↔ Fr A i ∧ i ≠ p := by
  obtain ⟨r, hr⟩ := h.prev hp
  obtain ⟨s, hs⟩ := h.next hp
  by_cases h0 : i = 0
  · subst h0
    simp [Fr]
  · have e := take_c0 (v := v) h hp r s hr hs i h0
    unfold Fr
    rw [e]
    show _ ∧ i < A.n ∧ _ ↔ _
    have hs0 := hs.2.1.1
    by_cases h1 : i = p
    · simp [h1]; omega
    · by_cases h2 : i = r
      · subst h2
        have := hr.1
        unfold Fr at this
        simp [h1]
        omega
      · simp [h1, h2]
theorem nx_take (h : Inv A M) (hp : Fr A p) (hne : A.b p ≠ A.c p) (hv : 0 ≤ v) {r s x y : Nat} (hr : Nx A r p) (hs : Nx A p s) (hxy : Nx (take A p v) x y) :
    (x = r ∧ y = s) ∨ (Nx A x y ∧ x ≠ p ∧ y ≠ p ∧ x ≠ r ∧ y ≠ s) := by
  have F := take_fr (v := v) h hp hne hv
  obtain ⟨hx, hy, ho⟩ := hxy
  rw [F] at hx hy
  by_cases hn : Nx A x y
  · refine .inr ⟨hn, hx.2, hy.2, ?_, ?_⟩
    · rintro rfl
      exact hy.2 (nx_inj h hn hr)
    · rintro rfl
      exact hx.2 (nx_inj' h hn hs)
  · left
    rcases ho with ⟨hlt, hb⟩ | ⟨hb1, hb2⟩
    · -- p lies between them
      have hbt : x < p ∧ p < y := by
        rcases Nat.lt_or_ge x p with h1 | h1
        · rcases Nat.lt_or_ge p y with h2 | h2
          · exact ⟨h1, h2⟩
          · refine absurd ⟨hx.1, hy.1, .inl ⟨hlt, fun t ht => ?_⟩⟩ hn
            by_cases e : t = p
            · right; omega
            · exact hb t ((F t).2 ⟨ht, e⟩)
        · refine absurd ⟨hx.1, hy.1, .inl ⟨hlt, fun t ht => ?_⟩⟩ hn
          by_cases e : t = p
          · left; omega
          · exact hb t ((F t).2 ⟨ht, e⟩)
      have n1 : Nx A x p := ⟨hx.1, hp, .inl ⟨hbt.1, fun t ht => by
        by_cases e : t = p
        · right; omega
        · have := hb t ((F t).2 ⟨ht, e⟩); omega⟩⟩
      have n2 : Nx A p y := ⟨hp, hy.1, .inl ⟨hbt.2, fun t ht => by
        by_cases e : t = p
        · left; omega
        · have := hb t ((F t).2 ⟨ht, e⟩); omega⟩⟩
      exact ⟨nx_inj' h n1 hr, nx_inj h n2 hs⟩
    · -- the ring's end
      have hb1' : ∀ t, Fr A t → t ≤ x ∨ t = p := fun t ht => by
        by_cases e : t = p
        · exact .inr e
        · exact .inl (hb1 t ((F t).2 ⟨ht, e⟩))
      have hb2' : ∀ t, Fr A t → y ≤ t ∨ t = p := fun t ht => by
        by_cases e : t = p
        · exact .inr e
        · exact .inl (hb2 t ((F t).2 ⟨ht, e⟩))
      have hyx : y ≤ x := by rcases hb2' x hx.1 with h' | h' <;> first | exact h' | exact absurd h' hx.2
      rcases Nat.lt_or_ge x p with h1 | h1
      · have n1 : Nx A x p := ⟨hx.1, hp, .inl ⟨h1, fun t ht => by rcases hb1' t ht with h' | h' <;> omega⟩⟩
        have n2 : Nx A p y := ⟨hp, hy.1, .inr ⟨fun t ht => by rcases hb1' t ht with h' | h' <;> omega, fun t ht => by rcases hb2' t ht with h' | h' <;> omega⟩⟩
        exact ⟨nx_inj' h n1 hr, nx_inj h n2 hs⟩
      · have h1' : p < x := by have := hx.2; omega
        rcases Nat.lt_or_ge p y with h2 | h2
        · have n1 : Nx A x p := ⟨hx.1, hp, .inr ⟨fun t ht => by rcases hb1' t ht with h' | h' <;> omega, fun t ht => by rcases hb2' t ht with h' | h' <;> omega⟩⟩
          have n2 : Nx A p y := ⟨hp, hy.1, .inl ⟨h2, fun t ht => by rcases hb2' t ht with h' | h' <;> omega⟩⟩
          exact ⟨nx_inj' h n1 hr, nx_inj h n2 hs⟩
        · refine absurd ⟨hx.1, hy.1, .inr ⟨fun t ht => ?_, fun t ht => ?_⟩⟩ hn
          · rcases hb1' t ht with h' | h' <;> omega
          · rcases hb2' t ht with h' | h' <;> omega
theorem take_zero (h : Inv A M) (hp : Fr A p) {r s : Nat} (hr : Nx A r p) (hs : Nx A p s) : (take A p v).c 0 = if -(p : Int) = A.c 0 then -(s : Int) else A.c 0 := by
  have e1 := (h.ring _ _ hr).2
  have e2 := (h.ring _ _ hs).1
  have h1 := hr.1.1
  have h2 := hp.1
  unfold take
  simp only
  rw [e1, e2]
  simp only [Int.neg_neg, Int.toNat_natCast]
  rw [upd_ne _ _ (by omega), upd_ne _ _ (by omega)]
  split
  · rw [upd_same]
  · rfl
/-- What taking a cell does. -/
theorem take_inv (h : Inv A M) (hp : Fr A p) (hne : A.b p ≠ A.c p) (hv : 0 ≤ v) (hv2 : v ≤ 2147483647) (hM : p ≤ M) : Inv (take A p v) M := by
  obtain ⟨r, hr⟩ := h.prev hp
  obtain ⟨s, hs⟩ := h.next hp
  have F := take_fr (v := v) h hp hne hv
  have ep := (h.ring _ _ hr).2
  have es := (h.ring _ _ hs).1
  have hrs : r ≠ s := by rintro rfl; exact hne (by rw [ep, es])
  have hrp : r ≠ p := by
    rintro rfl
    exact hrs (nx_inj h hr hs)
  have hsp : s ≠ p := by
    rintro rfl
    exact hrp (nx_inj' h hr hs)
  have hsz := h.size
  refine { big := h.big, bound := h.bound, cap := h.cap, us := ?_, b0 := ?_, some := ⟨s, (F s).2 ⟨hs.2.1, hsp⟩⟩, ring := ?_, c0 := ?_, rb := ?_, rc := ?_ }
  · intro i hi
    rcases fr_or_us (A := A) (i := i) hi.1 with hf | hu
    · by_cases e : i = p
      · omega
      · exact absurd hi (fr_not_us ((F i).2 ⟨hf, e⟩))
    · exact h.us i hu
  · rw [take_b0 h hp r s hr hs, if_neg (by have := hs.2.1.1; omega)]
    exact h.b0
  · intro x y hxy
    have hx0 : x ≠ 0 := by have := hxy.1.1; omega
    rw [take_b0 h hp r s hr hs, take_c0 h hp r s hr hs x hx0]
    rcases nx_take h hp hne hv hr hs hxy with ⟨rfl, rfl⟩ | ⟨hn, h1, h2, h3, h4⟩
    · rw [if_neg hrp, if_pos rfl, if_pos rfl]
      exact ⟨rfl, rfl⟩
    · rw [if_neg h1, if_neg h3, if_neg h4]
      exact h.ring _ _ hn
  · intro f hf
    rw [take_zero h hp hr hs]
    have hfF := (F f).1 hf.1
    obtain ⟨g, hg⟩ := h.first
    have e0 := h.c0 g hg
    by_cases e : p = g
    · subst e
      rw [e0, if_pos rfl]
      -- s is the first one now
      have : s = f := by
        have h1 := hf.2 s ((F s).2 ⟨hs.2.1, hsp⟩)
        have h2 := hg.2 f hfF.1
        rcases hs.2.2 with ⟨h3, h4⟩ | ⟨h3, h4⟩
        · rcases h4 f hfF.1 with h5 | h5
          · have := hfF.2; omega
          · omega
        · have := h4 p hp
          have := hg.2 s hs.2.1
          have := hfF.2
          have := h3 f hfF.1
          omega
      rw [this]
    · rw [if_neg (by omega), e0]
      have h1 := hf.2 g ((F g).2 ⟨hg.1, fun e' => e e'.symm⟩)
      have h2 := hg.2 f hfF.1
      omega
  · intro i hi
    have hi' : i < A.n := hi
    rw [take_b0 h hp r s hr hs]
    split
    · have := fr_lt hr.1; omega
    · exact h.rb i hi'
  · intro i hi
    have hi' : i < A.n := hi
    by_cases h0 : i = 0
    · subst h0
      rw [take_zero h hp hr hs]
      split
      · have := fr_lt hs.2.1; omega
      · exact h.rc 0 hi'
    · rw [take_c0 h hp r s hr hs i h0]
      split
      · omega
      · split
        · have := fr_lt hs.2.1; omega
        · exact h.rc i hi'
theorem take_us (h : Inv A M) (hp : Fr A p) (hne : A.b p ≠ A.c p) (hv : 0 ≤ v) (i : Nat) : Us (take A p v) i ↔ Us A i ∨ i = p := by
  have F := take_fr (v := v) h hp hne hv i
  have hn : (take A p v).n = A.n := rfl
  constructor
  · intro hu
    rcases fr_or_us (A := A) (i := i) hu.1 with hf | hu'
    · by_cases e : i = p
      · exact .inr e
      · exact absurd hu (fr_not_us (F.2 ⟨hf, e⟩))
    · exact .inl hu'
  · intro hu
    have hi : i < A.n := by
      rcases hu with hu | rfl
      · exact hu.1
      · exact fr_lt hp
    rcases fr_or_us (A := take A p v) (i := i) hi with hf | hu'
    · have := F.1 hf
      rcases hu with hu | rfl
      · exact absurd hu (fr_not_us this.1)
      · exact absurd rfl this.2
    · exact hu'
theorem take_old (h : Inv A M) (hp : Fr A p) {i : Nat} (hu : Us A i) : (i ≠ 0 → (take A p v).c i = A.c i) ∧ (take A p v).b i = A.b i := by
  obtain ⟨r, hr⟩ := h.prev hp
  obtain ⟨s, hs⟩ := h.next hp
  have h1 : i ≠ p := by rintro rfl; exact fr_not_us hp hu
  have h2 : i ≠ r := by rintro rfl; exact fr_not_us hr.1 hu
  have h3 : i ≠ s := by rintro rfl; exact fr_not_us hs.2.1 hu
  refine ⟨fun h0 => ?_, ?_⟩
  · rw [take_c0 h hp r s hr hs i h0, if_neg h1, if_neg h2]
  · rw [take_b0 h hp r s hr hs, if_neg h3]
theorem take_self (h : Inv A M) (hp : Fr A p) (hne : A.b p ≠ A.c p) : (take A p v).c p = v ∧ (take A p v).b p < 0 := by
  obtain ⟨r, hr⟩ := h.prev hp
  obtain ⟨s, hs⟩ := h.next hp
  have ep := (h.ring _ _ hr).2
  have es := (h.ring _ _ hs).1
  have hsp : s ≠ p := by
    rintro rfl
    have := nx_inj' h hr hs
    exact hne (by rw [ep, es, this])
  have hp0 := hp.1
  refine ⟨?_, ?_⟩
  · rw [take_c0 h hp r s hr hs p (by omega), if_pos rfl]
  · rw [take_b0 h hp r s hr hs, if_neg (fun e => hsp e.symm), ep]
    have := hr.1.1
    omega
/-- If a free cell has the same one ahead and behind, few are free. -/
theorem few_free (h : Inv A M) (hp : Fr A p) (he : A.b p = A.c p) : A.n ≤ M + 3 := by
  obtain ⟨r, hr⟩ := h.prev hp
  obtain ⟨s, hs⟩ := h.next hp
  have ep := (h.ring _ _ hr).2
  have es := (h.ring _ _ hs).1
  have hrs : r = s := by omega
  subst hrs
  refine Nat.le_of_not_lt fun hgt => ?_
  have f1 := h.top (i := A.n - 1) (by omega) (by have := h.big; omega)
  have f2 := h.top (i := A.n - 2) (by omega) (by have := h.big; omega)
  have f3 := h.top (i := A.n - 3) (by omega) (by have := h.big; omega)
  have hb := h.big
  have hpn := fr_lt hp
  have hrn := fr_lt hr.1
  rcases hr.2.2 with ⟨h1, h2⟩ | ⟨h1, h2⟩
  · rcases hs.2.2 with ⟨h3, h4⟩ | ⟨h3, h4⟩
    · omega
    · have := h4 _ f3; have := h3 _ f1; have := h2 _ f2; omega
  · have := h1 _ f1
    have := h2 _ f3
    rcases hs.2.2 with ⟨h3, h4⟩ | ⟨h3, h4⟩
    · have := h4 _ f2; omega
    · have := h3 _ f1; omega
end
end Go.Proofs.YteoljiclmhmbnaaDoor.Da

/-
  A double array, plain: growing, a fresh one, the search for a place.
-/
set_option linter.unusedVariables false
set_option linter.unusedSimpArgs false
namespace Go.Proofs.YteoljiclmhmbnaaDoor.Da

/-- Twice as many cells; the new ones free, behind the others in the ring. -/
def grown (A : DA) : DA :=
  { n := 2 * A.n
    b := upd (upd (fun i => if i < A.n then A.b i else -((i : Int) - 1)) A.n (A.b (-A.c 0).toNat)) (-A.c 0).toNat (-(((2 * A.n : Nat) : Int) - 1))
    c := upd (upd (fun i => if i < A.n then A.c i else -((i : Int) + 1)) (-A.b (-A.c 0).toNat).toNat (-(A.n : Int))) (2 * A.n - 1) (A.c 0) }

section
variable {A : DA} {M : Nat}
theorem ends (h : Inv A M) {f l : Nat} (hf : First A f) (hl : Last A l) : A.c 0 = -(f : Int) ∧ A.b f = -(l : Int) ∧ A.c l = -(f : Int) := by
  have := h.ring l f ⟨hl.1, hf.1, .inr ⟨hl.2, hf.2⟩⟩
  exact ⟨h.c0 f hf, this.2, this.1⟩
theorem grown_b (h : Inv A M) {f l : Nat} (hf : First A f) (hl : Last A l) (i : Nat) : (grown A).b i = if i = f then -(((2 * A.n : Nat) : Int) - 1) else if i < A.n then A.b i else if i = A.n then -(l : Int) else -((i : Int) - 1) := by
  obtain ⟨e0, e1, e2⟩ := ends h hf hl
  have := fr_lt hf.1
  unfold grown
  simp only
  rw [e0]
  simp only [Int.neg_neg, Int.toNat_natCast]
  unfold upd
  by_cases h1 : i = f
  · simp [h1]
  · simp only [if_neg h1]
    by_cases h2 : i = A.n
    · subst h2
      simp [e1]
    · simp [h2]
theorem grown_c (h : Inv A M) {f l : Nat} (hf : First A f) (hl : Last A l) (i : Nat) : (grown A).c i = if i = l then -(A.n : Int) else if i < A.n then A.c i else if i = 2 * A.n - 1 then -(f : Int) else -((i : Int) + 1) := by
  obtain ⟨e0, e1, e2⟩ := ends h hf hl
  have := fr_lt hf.1
  have hln := fr_lt hl.1
  have hb := h.big
  unfold grown
  simp only
  rw [e0]
  simp only [Int.neg_neg, Int.toNat_natCast]
  rw [e1]
  simp only [Int.neg_neg, Int.toNat_natCast]
  unfold upd
  by_cases h1 : i = 2 * A.n - 1
  · rw [if_pos h1, if_neg (by omega), if_neg (by omega), if_pos h1]
  · rw [if_neg h1]
    split
    · rfl
    · rfl
theorem grown_fr (h : Inv A M) (i : Nat) : Fr (grown A) i ↔ Fr A i ∨ (A.n ≤ i ∧ i < 2 * A.n) := by
  obtain ⟨f, hf⟩ := h.first
  obtain ⟨l, hl⟩ := h.last
  have e := grown_c h hf hl i
  have hb := h.big
  have hfn := fr_lt hf.1
  have hln := fr_lt hl.1
  have hf0 := hf.1.1
  unfold Fr
  rw [e]
  show _ ∧ i < 2 * A.n ∧ _ ↔ _
  by_cases h1 : i = l
  · subst h1
    have := hl.1
    unfold Fr at this
    rw [if_pos rfl]
    omega
  · rw [if_neg h1]
    by_cases h2 : i < A.n
    · rw [if_pos h2]; omega
    · rw [if_neg h2]
      split <;> omega
theorem grown_us (h : Inv A M) (i : Nat) : Us (grown A) i ↔ Us A i := by
  have F := grown_fr h i
  have hb := h.big
  have hn : (grown A).n = 2 * A.n := rfl
  constructor
  · intro hu
    have h1 := hu.1
    rw [hn] at h1
    by_cases h2 : i < A.n
    · rcases fr_or_us h2 with hf | hu'
      · exact absurd hu (fr_not_us (F.2 (.inl hf)))
      · exact hu'
    · exact absurd hu (fr_not_us (F.2 (.inr ⟨by omega, h1⟩)))
  · intro hu
    have h1 := hu.1
    rcases fr_or_us (A := grown A) (i := i) (by rw [hn]; omega) with hf | hu'
    · rcases F.1 hf with h2 | h2
      · exact absurd hu (fr_not_us h2)
      · omega
    · exact hu'
theorem grown_old (h : Inv A M) {i : Nat} (hu : Us A i) : (grown A).c i = A.c i ∧ (grown A).b i = A.b i := by
  obtain ⟨f, hf⟩ := h.first
  obtain ⟨l, hl⟩ := h.last
  have h1 : i ≠ f := by rintro rfl; exact fr_not_us hf.1 hu
  have h2 : i ≠ l := by rintro rfl; exact fr_not_us hl.1 hu
  rw [grown_c h hf hl, grown_b h hf hl, if_neg h2, if_neg h1, if_pos hu.1, if_pos hu.1]
  exact ⟨rfl, rfl⟩
theorem grown_inv (h : Inv A M) (hM : A.n ≤ M + 3) : Inv (grown A) M := by
  obtain ⟨f, hf⟩ := h.first
  obtain ⟨l, hl⟩ := h.last
  have hb := h.big
  have hfn := fr_lt hf.1
  have hln := fr_lt hl.1
  have hf0 := hf.1.1
  have F := grown_fr h
  have hn : (grown A).n = 2 * A.n := rfl
  have hsz := h.size
  have hcap := h.cap
  refine { big := by omega, bound := .inr (by omega), cap := h.cap, us := fun i hi => h.us i ((grown_us h i).1 hi), b0 := ?_, some := ⟨f, (F f).2 (.inl hf.1)⟩, ring := ?_, c0 := ?_, rb := ?_, rc := ?_ }
  · rw [grown_b h hf hl, if_neg (by omega), if_pos (by omega)]
    exact h.b0
  · intro p q hpq
    obtain ⟨hp, hq, ho⟩ := hpq
    have hp' := (F p).1 hp
    have hq' := (F q).1 hq
    rw [grown_b h hf hl, grown_c h hf hl]
    rcases ho with ⟨hlt, hbt⟩ | ⟨h1, h2⟩
    · rcases hp' with hp' | hp'
      · by_cases hpl : p = l
        · -- the last one: the first new one follows
          have hqn : q = A.n := by
            rcases hbt A.n ((F A.n).2 (.inr ⟨by omega, by omega⟩)) with h3 | h3
            · have := fr_lt hp'; omega
            · rcases hq' with hq' | hq'
              · have := hl.2 q hq'; omega
              · omega
          rw [if_pos hpl, if_neg (by omega), if_neg (by omega), if_pos hqn, hqn, hpl]
          exact ⟨rfl, rfl⟩
        · have hpl' : p < l := by have := hl.2 p hp'; omega
          have hqA : Fr A q := by
            rcases hq' with hq' | hq'
            · exact hq'
            · rcases hbt l ((F l).2 (.inl hl.1)) with h3 | h3 <;> omega
          have hqf : q ≠ f := by have := hf.2 p hp'; omega
          rw [if_neg hpl, if_pos (fr_lt hp'), if_neg hqf, if_pos (fr_lt hqA)]
          refine h.ring p q ⟨hp', hqA, .inl ⟨hlt, fun r hr => hbt r ((F r).2 (.inl hr))⟩⟩
      · -- two new ones
        have hqn : q = p + 1 := by
          rcases Nat.lt_or_ge (p + 1) (2 * A.n) with h3 | h3
          · rcases hbt (p + 1) ((F (p + 1)).2 (.inr ⟨by omega, h3⟩)) with h4 | h4 <;> omega
          · rcases hq' with hq' | hq'
            · have := fr_lt hq'; omega
            · omega
        have hq2 : q < 2 * A.n := by
          rcases hq' with hq' | hq'
          · have := fr_lt hq'; omega
          · omega
        rw [if_neg (by omega), if_neg (by omega), if_neg (by omega), if_neg (by omega), if_neg (by omega), if_neg (by omega)]
        omega
    · have hqf : q = f := by
        have := h2 f ((F f).2 (.inl hf.1))
        rcases hq' with hq' | hq'
        · have := hf.2 q hq'; omega
        · omega
      have hpe : p = 2 * A.n - 1 := by
        have := h1 (2 * A.n - 1) ((F _).2 (.inr ⟨by omega, by omega⟩))
        rcases hp' with hp' | hp'
        · have := fr_lt hp'; omega
        · omega
      rw [if_neg (by omega), if_neg (by omega), if_pos hpe, if_pos hqf, hqf]
      refine ⟨rfl, ?_⟩
      omega
  · intro g hg
    have hgf : g = f := by
      have h1 := hg.2 f ((F f).2 (.inl hf.1))
      rcases (F g).1 hg.1 with h2 | h2
      · have := hf.2 g h2; omega
      · omega
    rw [grown_c h hf hl, if_neg (by have := hl.1.1; omega), if_pos (by omega), h.c0 f hf, hgf]
  · intro i hi
    rw [hn] at hi
    rw [grown_b h hf hl]
    split
    · omega
    · split
      · rename_i h2
        exact h.rb i h2
      · split <;> omega
  · intro i hi
    rw [hn] at hi
    rw [grown_c h hf hl]
    split
    · omega
    · split
      · rename_i h2
        exact h.rc i h2
      · split <;> omega
theorem grown_not_last (h : Inv A M) {f : Nat} (hf : Fr A f) : ¬ Last (grown A) f := by
  intro hl
  have := hl.2 (2 * A.n - 1) ((grown_fr h _).2 (.inr ⟨by have := h.big; omega, by have := h.big; omega⟩))
  have := fr_lt hf
  omega

/-- A fresh array of n cells. -/
def fresh (n : Nat) : DA :=
  { n := n
    b := fun i => if i = 0 then 1 else if i = 1 then -((n : Int) - 1) else -((i : Int) - 1)
    c := fun i => if i = 0 then -1 else if i = n - 1 then -1 else -((i : Int) + 1) }
theorem fresh_fr (n : Nat) (i : Nat) : Fr (fresh n) i ↔ 0 < i ∧ i < n := by
  unfold Fr fresh
  simp only
  constructor
  · rintro ⟨h1, h2, _⟩; exact ⟨h1, h2⟩
  · rintro ⟨h1, h2⟩
    refine ⟨h1, h2, ?_⟩
    split
    · omega
    · split <;> omega
theorem fresh_us (n : Nat) (i : Nat) : Us (fresh n) i → i = 0 := by
  intro h
  by_cases h0 : i = 0
  · exact h0
  · exact absurd h (fr_not_us ((fresh_fr n i).2 ⟨by omega, h.1⟩))
theorem fresh_inv : Inv (fresh 51200) 0 := by
  have F := fresh_fr 51200
  refine { big := by decide, bound := .inl (by decide), cap := by decide, us := fun i hi => by rw [fresh_us _ i hi]; exact Nat.le_refl _, b0 := rfl, some := ⟨1, (F 1).2 (by decide)⟩, ring := ?_, c0 := ?_, rb := ?_, rc := ?_ }
  · rintro p q ⟨hp, hq, ho⟩
    have hp' := (F p).1 hp
    have hq' := (F q).1 hq
    show (if p = 0 then (-1 : Int) else if p = 51200 - 1 then -1 else -((p : Int) + 1)) = _ ∧ (if q = 0 then (1 : Int) else if q = 1 then -(((51200 : Nat) : Int) - 1) else -((q : Int) - 1)) = _
    rcases ho with ⟨hlt, hb⟩ | ⟨h1, h2⟩
    · have : q = p + 1 := by
        rcases hb (p + 1) ((F _).2 (by omega)) with h | h <;> omega
      rw [if_neg (by omega), if_neg (by omega), if_neg (by omega), if_neg (by omega)]
      omega
    · have := h1 51199 ((F _).2 (by omega))
      have := h2 1 ((F _).2 (by omega))
      have e1 : p = 51199 := by omega
      have e2 : q = 1 := by omega
      subst e1 e2
      decide
  · intro f hf
    have h1 := hf.2 1 ((F _).2 (by omega))
    have h2 := (F f).1 hf.1
    have : f = 1 := by omega
    subst this
    rfl
  · intro i hi
    have hi' : i < 51200 := hi
    show _ ≤ (if i = 0 then (1 : Int) else if i = 1 then -(((51200 : Nat) : Int) - 1) else -((i : Int) - 1)) ∧ (if i = 0 then (1 : Int) else if i = 1 then -(((51200 : Nat) : Int) - 1) else -((i : Int) - 1)) ≤ _
    split
    · decide
    · split <;> omega
  · intro i hi
    have hi' : i < 51200 := hi
    show _ ≤ (if i = 0 then (-1 : Int) else if i = 51200 - 1 then -1 else -((i : Int) + 1)) ∧ (if i = 0 then (-1 : Int) else if i = 51200 - 1 then -1 else -((i : Int) + 1)) ≤ _
    split
    · decide
    · split <;> omega

/-- The search stands at 0 or at a free cell; whether that is the last one. -/
def At (A : DA) (f : Nat) : Prop := f = 0 ∨ Fr A f
theorem at_last (h : Inv A M) {f : Nat} (hf : Fr A f) : A.c f = A.c 0 ↔ Last A f := by
  obtain ⟨g, hg⟩ := h.first
  obtain ⟨l, hl⟩ := h.last
  obtain ⟨e0, e1, e2⟩ := ends h hg hl
  constructor
  · intro he
    obtain ⟨s, hs⟩ := h.next hf
    have := (h.ring _ _ hs).1
    have hsg : s = g := by omega
    subst hsg
    rcases hs.2.2 with ⟨h1, h2⟩ | ⟨h1, h2⟩
    · have := hg.2 f hf; omega
    · exact ⟨hf, h1⟩
  · intro hf'
    have : f = l := by have := hf'.2 l hl.1; have := hl.2 f hf; omega
    rw [this, e2, e0]
/-- From a cell that is not the last one, or from 0, the search goes on to the next free cell. -/
theorem seek_next (h : Inv A M) {f rep : Nat} (ha : At A f) (hf : f ≤ max M rep) (hr : rep ≤ 255) (hn : f ≠ 0 → ¬ Last A f) : ∃ g : Nat, A.c f = -(g : Int) ∧ Fr A g ∧ f < g ∧ g ≤ max M rep + 1 := by
  have key : ∀ g, Fr A g → f < g → (∀ r, Fr A r → r ≤ f ∨ g ≤ r) → g ≤ max M rep + 1 := by
    intro g hg hlt hb
    by_cases hx : max M rep + 1 < A.n
    · rcases hb _ (h.top (i := max M rep + 1) (by omega) hx) with h1 | h1 <;> omega
    · have := fr_lt hg; omega
  by_cases h0 : f = 0
  · subst h0
    obtain ⟨g, hg⟩ := h.first
    exact ⟨g, h.c0 g hg, hg.1, hg.1.1, key g hg.1 hg.1.1 (fun r hr => .inr (hg.2 r hr))⟩
  · rcases ha with ha | ha
    · exact absurd ha h0
    · obtain ⟨g, hg⟩ := h.next ha
      rcases hg.2.2 with ⟨h1, h2⟩ | ⟨h1, h2⟩
      · exact ⟨g, (h.ring _ _ hg).1, hg.2.1, h1, key g hg.2.1 h1 h2⟩
      · exact absurd ⟨ha, h1⟩ (hn h0)
/-- At the last one, where the search has failed so far, few are free. -/
theorem seek_wrap (h : Inv A M) {f rep : Nat} (hl : Last A f) (hf : f ≤ max M rep) (hr : rep ≤ 255) : A.n ≤ M + 3 := by
  refine Nat.le_of_not_lt fun hgt => ?_
  have hb := h.big
  have := hl.2 _ (h.top (i := A.n - 1) (by omega) (by omega))
  omega
end
/-- Characters from a base on are free, or lie beyond. -/
def Fits (A : DA) (base : Nat) (chars : List Nat) : Prop := ∀ ch ∈ chars, A.n ≤ base + ch ∨ Fr A (base + ch)
end Go.Proofs.YteoljiclmhmbnaaDoor.Da
