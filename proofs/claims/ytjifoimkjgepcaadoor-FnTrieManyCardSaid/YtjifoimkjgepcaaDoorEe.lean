/-
  The walks of laws.trie and laws.builds.
-/
import Derived.Test.YtjifoimkjgepcaaDoorEd
set_option linter.unusedVariables false
set_option linter.unusedSimpArgs false
namespace Go.Proofs.YtjifoimkjgepcaaDoor.Da
open Go.RowKit Go.ChangeShapes Go.Proofs.YtjifoimkjgepcaaDoor.K Go.Proofs.YtjifoimkjgepcaaDoorW.PrintWords

/-- The cells of an answer in a row. -/
theorem ans_at {w : World} {A : Option Addr} {n : Nat} {xs : List Ans} (h : kAns.C w A n xs) : ∀ j (hj : j < xs.length), ∃ ad, A = some ad ∧ ∃ A1 c1 A2 c2,
    w.cell? (ad.add (j * 6)) = some (.int .i64 xs[j].1.1) ∧ w.cell? ⟨(ad.add (j * 6)).block, (ad.add (j * 6)).off + 1, none⟩ = some (.bool xs[j].1.2) ∧
    w.cell? ⟨(ad.add (j * 6)).block, (ad.add (j * 6)).off + 2, none⟩ = some (.int .i64 xs[j].2.1.1) ∧ w.cell? ⟨(ad.add (j * 6)).block, (ad.add (j * 6)).off + 3, none⟩ = some (.bool xs[j].2.1.2) ∧
    w.cell? ⟨(ad.add (j * 6)).block, (ad.add (j * 6)).off + 4, none⟩ = some (.slice A1 xs[j].2.2.1.length c1) ∧ w.cell? ⟨(ad.add (j * 6)).block, (ad.add (j * 6)).off + 5, none⟩ = some (.slice A2 xs[j].2.2.2.length c2) ∧
    kHit.C w A1 xs[j].2.2.1.length xs[j].2.2.1 ∧ kHit.C w A2 xs[j].2.2.2.length xs[j].2.2.2 := by
  intro j hj
  obtain ⟨ad, hA, hc⟩ := h.2.2 (by have := h.1; omega)
  obtain ⟨c, hl, hk, hcell⟩ := hc j xs[j] (List.getElem?_eq_getElem hj)
  generalize xs[j] = x at hk ⊢
  obtain ⟨p1, q1, rfl, ⟨_, _, rfl, rfl, rfl⟩, p2, q2, rfl, ⟨_, _, rfl, rfl, rfl⟩, p3, q3, rfl, ⟨A1, c1, hp3, -, hC1⟩, ⟨A2, c2, hq3, -, hC2⟩⟩ := hk
  subst hp3
  subst hq3
  have e : kAns.sz = 6 := rfl
  rw [e] at hcell
  have h0 := hcell 0 _ rfl
  have h1 := hcell 1 _ rfl
  have h2 := hcell 2 _ rfl
  have h3 := hcell 3 _ rfl
  have h4 := hcell 4 _ rfl
  have h5 := hcell 5 _ rfl
  rw [Nat.add_zero] at h0
  rw [add_field _ _ _ (by decide)] at h1 h2 h3 h4 h5
  exact ⟨ad, hA, A1, c1, A2, c2, h0, h1, h2, h3, h4, h5, hC1, hC2⟩

/-- The cells of an answer in a row of the call's own, and its lists. -/
theorem ansR_at {w : World} {base : Nat} {v : Value} {xs : List Ans} (h : kAns.R tAns w base (fun _ => True) v xs) : ∃ A c, v = .slice A xs.length c ∧ kAns.C w A xs.length xs ∧ ∀ j (hj : j < xs.length), ∃ ad, A = some ad ∧ ∃ A1 c1 A2 c2,
    w.cell? (ad.add (j * 6)) = some (.int .i64 xs[j].1.1) ∧ w.cell? ⟨(ad.add (j * 6)).block, (ad.add (j * 6)).off + 1, none⟩ = some (.bool xs[j].1.2) ∧
    w.cell? ⟨(ad.add (j * 6)).block, (ad.add (j * 6)).off + 2, none⟩ = some (.int .i64 xs[j].2.1.1) ∧ w.cell? ⟨(ad.add (j * 6)).block, (ad.add (j * 6)).off + 3, none⟩ = some (.bool xs[j].2.1.2) ∧
    w.cell? ⟨(ad.add (j * 6)).block, (ad.add (j * 6)).off + 4, none⟩ = some (.slice A1 xs[j].2.2.1.length c1) ∧ w.cell? ⟨(ad.add (j * 6)).block, (ad.add (j * 6)).off + 5, none⟩ = some (.slice A2 xs[j].2.2.2.length c2) ∧
    kHit.R tHit w base (fun k => base ≤ k) (.slice A1 xs[j].2.2.1.length c1) xs[j].2.2.1 ∧ kHit.R tHit w base (fun k => base ≤ k) (.slice A2 xs[j].2.2.2.length c2) xs[j].2.2.2 := by
  obtain ⟨A, c, he, hl, hr⟩ := OwnRow.reads (Kd.R_mono (Kd.R_bound h) (ok' := fun k => base ≤ k) (fun k hk => hk.2.1)).2
  obtain ⟨A', c', he', _, hC⟩ := Kd.R_reads h
  rw [he] at he'
  injection he' with e1 _ _
  subst e1
  refine ⟨A, c, he, hC, fun j hj => ?_⟩
  obtain ⟨ad, hA, hc⟩ := hr.2.2 (by omega)
  obtain ⟨c, hl, hk, hcell⟩ := hc j xs[j] (List.getElem?_eq_getElem hj)
  generalize xs[j] = x at hk ⊢
  obtain ⟨p1, q1, rfl, ⟨_, _, rfl, rfl, rfl⟩, p2, q2, rfl, ⟨_, _, rfl, rfl, rfl⟩, p3, q3, rfl, ⟨v1, hp3, hR1⟩, ⟨v2, hq3, hR2⟩⟩ := hk
  obtain ⟨A1, c1, rfl⟩ := Kd.R_slice hR1
  obtain ⟨A2, c2, rfl⟩ := Kd.R_slice hR2
  subst hp3
  subst hq3
  have e : kAns.sz = 6 := rfl
  rw [e] at hcell
  have h0 := hcell 0 _ rfl
  have h1 := hcell 1 _ rfl
  have h2 := hcell 2 _ rfl
  have h3 := hcell 3 _ rfl
  have h4 := hcell 4 _ rfl
  have h5 := hcell 5 _ rfl
  rw [Nat.add_zero] at h0
  rw [add_field _ _ _ (by decide)] at h1 h2 h3 h4 h5
  exact ⟨ad, hA, A1, c1, A2, c2, h0, h1, h2, h3, h4, h5, Kd.R_mono hR1 (fun k hk => hk.1), Kd.R_mono hR2 (fun k hk => hk.1)⟩
/-- Six stores into a block. -/
def set6 (w : World) (b : Nat) (a0 a1 a2 a3 a4 a5 : Value) : World :=
  (((((w.setCell ⟨b, 0, none⟩ a0).setCell ⟨b, 1, none⟩ a1).setCell ⟨b, 2, none⟩ a2).setCell ⟨b, 3, none⟩ a3).setCell ⟨b, 4, none⟩ a4).setCell ⟨b, 5, none⟩ a5
theorem set6_at {b : Nat} {u0 u1 u2 u3 u4 u5 a0 a1 a2 a3 a4 a5 : Value} {w : World} (h : AnsAt b u0 u1 u2 u3 u4 u5 w) : AnsAt b a0 a1 a2 a3 a4 a5 (set6 w b a0 a1 a2 a3 a4 a5) := by
  unfold AnsAt set6
  rw [heap_set (heap_set (heap_set (heap_set (heap_set (heap_set h 0 a0) 1 a1) 2 a2) 3 a3) 4 a4) 5 a5]
  rfl
theorem set6_R {α : Type} {d : Kd α} {e : Nat} {w : World} {base b : Nat} {v : Value} {xs : List α} (h : d.R e w base (fun k => base ≤ k) v xs) (hb : b < base) (a0 a1 a2 a3 a4 a5 : Value) : d.R e (set6 w b a0 a1 a2 a3 a4 a5) base (fun k => base ≤ k) v xs := by
  have hne : ∀ j k : Nat, base ≤ k → k ≠ (⟨b, j, none⟩ : Addr).block := fun j k hk => by show k ≠ b; omega
  exact Kd.R_far (Kd.R_far (Kd.R_far (Kd.R_far (Kd.R_far (Kd.R_far h (hne 0) _) (hne 1) _) (hne 2) _) (hne 3) _) (hne 4) _) (hne 5) _
theorem set6_below {w0 w : World} {b : Nat} (h : Below w0.heap.size w0 w) (hb : w0.heap.size ≤ b) (a0 a1 a2 a3 a4 a5 : Value) : Below w0.heap.size w0 (set6 w b a0 a1 a2 a3 a4 a5) :=
  (((((h.setCell hb _).setCell hb _).setCell hb _).setCell hb _).setCell hb _).setCell hb _

/-- What laws.trie returns. -/
def TrieRet (a : Ans) (w : World) (e : Ending) (w' : World) : Prop :=
  ∃ A1 c1 A2 c2, e = .returned (.tuple #[.agg #[.int .i64 a.1.1, .bool a.1.2, .int .i64 a.2.1.1, .bool a.2.1.2, .slice A1 a.2.2.1.length c1, .slice A2 a.2.2.2.length c2], .bool true]) ∧
    kHit.C w' A1 a.2.2.1.length a.2.2.1 ∧ kHit.C w' A2 a.2.2.2.length a.2.2.2 ∧ Below w.heap.size w w'
theorem asked_one {s : ByteArray} (hz : noZ s) (hs : s.size ≤ 2147483647) : Asked [s] := ⟨by simp, fun x hx => by rw [List.mem_singleton.1 hx]; exact ⟨hz, hs⟩⟩
theorem strs_new (w : World) (s : ByteArray) : Kd.string.C (w.alloc (.cells #[.string s] 9)) (some ⟨w.heap.size, 0, none⟩) [s].length [s] := C_of_block (cs := [.string s]) (heap_new w _) (reps_strs _ [s]) (by simp)

end Go.Proofs.YtjifoimkjgepcaaDoor.Da
