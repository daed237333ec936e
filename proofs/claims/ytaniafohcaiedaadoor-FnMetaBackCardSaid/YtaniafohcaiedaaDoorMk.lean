/-
  Marks: a list of them in memory, and the map that impl.marks makes.
-/
import Derived.Test.YtaniafohcaiedaaDoorK
import Derived.Test.YtaniafohcaiedaaDoorRows
import Derived.Maps.OwnOps
import Derived.WalkArith
import Derived.StringKeys
set_option linter.unusedVariables false
set_option linter.unusedSimpArgs false
namespace Go.Proofs.YtaniafohcaiedaaDoor.M
open Go.RowKit Go.Proofs.YtaniafohcaiedaaDoor.K Go.Proofs.YtaniafohcaiedaaDoorW.PrintWords Go.Maps

abbrev Mk := ByteArray × Int
def kMk : Kd Mk := Kd.pair Kd.string (Kd.int .i64)
theorem marks_at {w : World} {A : Option Addr} {n : Nat} {xs : List Mk} (h : kMk.C w A n xs) : ∀ j (hj : j < xs.length), ∃ ad, A = some ad ∧
    w.cell? (ad.add (j * 2)) = some (.string xs[j].1) ∧ w.cell? ⟨(ad.add (j * 2)).block, (ad.add (j * 2)).off + 1, none⟩ = some (.int .i64 xs[j].2) := by
  intro j hj
  obtain ⟨ad, hA, hc⟩ := h.2.2 (by have := h.1; omega)
  obtain ⟨c, hl, hk, hcell⟩ := hc j xs[j] (List.getElem?_eq_getElem hj)
  obtain ⟨_, _, rfl, rfl, rfl⟩ := hk
  have e : kMk.sz = 2 := rfl
  rw [e] at hcell
  have h0 := hcell 0 _ rfl
  have h1 := hcell 1 _ rfl
  rw [Nat.add_zero] at h0
  rw [add_field _ _ _ (by decide)] at h1
  exact ⟨ad, hA, h0, h1⟩
theorem law : Keyed Tryd.prog 9 := string_keyed Tryd.underlying9
theorem zeroE (w : World) : (zeroValue 74).run Tryd.prog w = .ok (.int .i8 0) w := by kernel_rfl
def mkKey (s : ByteArray) : Lit := .string s.data.toList
def mkVal (v : Int) : DataW Unit := .lit (.int .i8 (IntKind.i8.wrap v))
/-- The map of a list of marks. -/
def mapL (l : List Mk) : DataW Unit := l.foldl (fun D m => D.put (mkKey m.1) (mkVal m.2)) (.map [])
theorem mapL_snoc (l : List Mk) (m : Mk) : mapL (l ++ [m]) = (mapL l).put (mkKey m.1) (mkVal m.2) := by simp [mapL, List.foldl_append]
theorem wf_i8 (v : Int) : (Lit.int .i8 (IntKind.i8.wrap v)).wf = true := by
  simp only [Lit.wf, IntKind.min, IntKind.max, IntKind.signed, IntKind.bits, IntKind.wrap, Bool.and_eq_true, decide_eq_true_eq]
  simp
  omega

set_option maxHeartbeats 1000000 in
set_option maxRecDepth 5000 in
theorem marks_any (A : Option Addr) (c : Nat) (l : List Mk) (w : World) (hC : kMk.C w A l.length l) (hl : l.length ≤ 2147483647) (hs : ∀ m ∈ l, m.1.size ≤ maxLen) :
    Calls Tryd.prog 61 #[.slice A l.length c] w fun e w' => e = .returned (.map (some w.heap.size)) ∧ w'.ownsMap Tryd.prog 9 (plainElem Tryd.prog 74) w.heap.size l.length (mapL l) ∧ Below w.heap.size w w' := by
  have hmm := @run_makeMap Tryd.prog
  have HC := Lib.hid hC
  have HSZ := Lib.hid hs
  clear hC hs
  go_enter Tryd.func61, Tryd.ntmps61
  go_wp2
  go_loopw [9] (fun i wr => ∃ k : Nat, k ≤ l.length ∧ i = .int .i64 k ∧ Hid (wr.ownsMap Tryd.prog 9 (plainElem Tryd.prog 74) w.heap.size k (mapL (l.take k))) ∧ Hid (Below w.heap.size w wr)) (fun i _ => l.length - (intOf i).toNat)
  case atStart => exact ⟨0, Nat.zero_le _, rfl, Lib.hid (World.ownsMap_made _ _ _ _), Lib.hid ((Below.refl _ _).alloc (Nat.le_refl _) _)⟩
  case round =>
    obtain ⟨k, hk, rfl, hown, hbel⟩ := hrel
    have hzr := hbel.out.size
    by_cases hlt : k < l.length
    · obtain ⟨ad, rfl, h0, h1⟩ := marks_at (Kd.C_below HC.out hbel.out) k hlt
      have hsz := HSZ.out l[k] (List.getElem_mem _)
      have HT := Lib.hid (show l.take (k + 1) = l.take k ++ [l[k]] by rw [List.take_succ_eq_append_getElem hlt])
      generalize l[k] = m at h0 h1 hsz HT
      obtain ⟨s, v⟩ := m
      simp only at h0 h1 hsz
      have hkey : keyOf Tryd.prog 9 (.string s) = some (mkKey s) := WideMaps.keyOf_string_mk Tryd.underlying9 hsz
      go_wp2_with (first
        | (at_mapUpdate; refine wpList_mapUpdate_own _ rfl _ _ _ 111 rfl 9 74 law Tryd.underlying111 _ w.heap.size k (mapL (l.take k)) rfl ?hown (by unfold maxLen; omega) _ _ _ rfl rfl hkey _ [] (plainElem_int Tryd.underlying74 (wf_i8 v)) ?_)
        | go_in)
      case hown => exact hown.out.alloc _
      intro w1 hown1 hgrow1
      have R1 := Lib.hid (show w1.ownsMap Tryd.prog 9 (plainElem Tryd.prog 74) w.heap.size (k + 1) (mapL (l.take (k + 1))) by rw [HT.out, mapL_snoc]; exact hown1)
      have R2 := Lib.hid ((hbel.out.alloc hzr _).grown hgrow1 (by simp; omega) (fun j hj => by cases hj; exact Nat.le_refl _))
      clear hown1 hgrow1
      go_wp2
      exact ⟨⟨k + 1, by omega, by go_num, R1, R2⟩, by simp [intOf]; omega⟩
    · obtain rfl : k = l.length := by omega
      have h2 := hown.out
      rw [List.take_length] at h2
      have H2 := Lib.hid h2
      clear h2
      go_wp2
      go_ret
      exact ⟨rfl, H2.out, hbel.out⟩
end Go.Proofs.YtaniafohcaiedaaDoor.M
