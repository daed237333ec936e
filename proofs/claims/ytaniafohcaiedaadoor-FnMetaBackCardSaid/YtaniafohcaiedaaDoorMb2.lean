/-
  The walk of impl.marksBack.
-/
import Derived.Test.YtaniafohcaiedaaDoorMk
import Derived.Test.YtaniafohcaiedaaDoorIter
set_option linter.unusedVariables false
set_option linter.unusedSimpArgs false
namespace Go.Proofs.YtaniafohcaiedaaDoor.M
open Go.RowKit Go.Proofs.YtaniafohcaiedaaDoor.K Go.Proofs.YtaniafohcaiedaaDoorW.PrintWords Go.Maps Go.Sort

def mkS (x : List UInt8) : ByteArray := ⟨x.toArray⟩
/-- What a map of marks has at a name. -/
def valAt (D : DataW Unit) (x : List UInt8) : Int := match D.atKey (.string x) (.lit (.int .i8 0)) with | .lit (.int _ c) => c | _ => 0
/-- The marks of a map, ascending by name. -/
def backL (D : DataW Unit) : List Mk := ((strKeys D).mergeSort leB).map fun x => (mkS x, valAt D x)
theorem own_strs {w : World} {base n : Nat} {v : Value} {xs : List (List UInt8)} (h : w.ownsRow base 9 1 v n (xs.map encStr)) (hn : n = xs.length) : ∃ A c, v = .slice A (xs.map mkS).length c ∧ Kd.string.C w A (xs.map mkS).length (xs.map mkS) := by
  subst hn
  have h' : w.ownsRow base 9 1 v (xs.map mkS).length ((xs.map mkS).map Value.string) := by
    rw [List.map_map, List.length_map]
    exact h
  obtain ⟨A, c, he, hc, hr⟩ := own_reads_of_le (enc := Value.string) (d := ByteArray.empty) h'
  exact ⟨A, c, he, Kd.C_of_reads (enc := Value.string) (d := ByteArray.empty) (h1 := fun _ => rfl) hr⟩

theorem map_below {k : TypeId} {R : Value → Option (DataW Unit × List MemPlace)} {w w1 : World} {b n : Nat} {D : DataW Unit} (h : w.ownsMap Tryd.prog k R b n D) (hb : Below w.heap.size w w1) : w1.ownsMap Tryd.prog k R b n D := by
  obtain ⟨es, clock, h1, r⟩ := h
  exact ⟨es, clock, (hb.block b (lt_of_heap h1)).trans h1, r⟩
theorem mark_M (W : World) (base : Nat) (okp : Nat → Prop) (s : ByteArray) (v : Int) : kMk.M W base okp (s, v) [.string s, .int .i64 v] := ⟨[.string s], [.int .i64 v], rfl, rfl, rfl⟩
theorem wrap_i8_64 {c : Int} (h : (Lit.int .i8 c).wf = true) : wrap64 c = c := by
  simp only [Lit.wf, IntKind.min, IntKind.max, IntKind.signed, IntKind.bits, Bool.and_eq_true, decide_eq_true_eq] at h
  simp at h
  unfold wrap64
  omega
set_option maxHeartbeats 1000000 in
set_option maxRecDepth 5000 in
theorem marksBack_any (b nn : Nat) (D : DataW Unit) (w : World) (hown : w.ownsMap Tryd.prog 9 (plainElem Tryd.prog 74) b nn D) (hsz : Maps.size D ≤ 2147483647) (hk : ∀ x ∈ strKeys D, x.length ≤ maxLen) :
    Calls Tryd.prog 60 #[.map (some b)] w (RetRow kMk 62 (backL D) w) := by
  have hK := fun W => (callsIn_wide (n := 5)).1 (Tryd.maps_Keys_77 (some b) W)
  have hS := (callsIn_wide (n := 5)).1 (Tryd.slices_Sorted_keys_76_77 b nn D _ w hown (by unfold maxLen; omega) (by omega))
  have HK := Lib.hid hK
  have HS := Lib.hid hS
  have HOWN := Lib.hid hown
  have HKL := Lib.hid hk
  clear hK hS hown hk
  go_enter Tryd.func60, Tryd.ntmps60
  go_wp2_with fail
  refine (HK.out w).mono ?_
  rintro e w1 ⟨rfl, rfl⟩
  go_wp2_with fail
  refine HS.out.mono ?_
  rintro e w2 ⟨v, ss, rfl, hp, hrow, -, hb⟩
  have hml := mergeSort_of_perm hp
  obtain ⟨KL, hKL⟩ : ∃ KL, (strKeys D).mergeSort leB = KL := ⟨_, rfl⟩
  have hrow2 : w2.ownsRow (w.alloc (.cells #[.map (some b)] 111)).heap.size 9 1 v ss.length (KL.map encStr) := by rw [← hKL, ← hml]; exact hrow
  have hlen : ss.length = KL.length := by rw [← hKL, ← hml, List.length_mergeSort]
  obtain ⟨A, c, rfl, hC⟩ := own_strs hrow2 hlen
  have hback : backL D = KL.map fun x => (mkS x, valAt D x) := by unfold backL; rw [hKL]
  have hal := below_alloc (Below.refl w.heap.size w) (.cells #[.map (some b)] 111)
  have hL2 := hal.trans (hb.mono hal.size)
  have hwz := hL2.size
  have HL2 := Lib.hid hL2
  have HM := Lib.hid (map_below HOWN.out hL2)
  have HC := Lib.hid hC
  have HKB := Lib.hid (show ∀ x ∈ KL, x.length ≤ maxLen from fun x hx => HKL.out x (by rw [← hKL] at hx; exact List.mem_mergeSort.1 hx))
  have hN : KL.length ≤ 2147483647 := by
    have h1 := hp.length_eq
    have h2 : (strKeys D).length ≤ Maps.size D := by
      cases D <;> simp [strKeys, Maps.size]
    omega
  have HBACK := Lib.hid hback
  clear hrow hrow2 hp hml hb hal hL2 hC hKL HKL HK HS hback HOWN
  obtain ⟨N, hNN⟩ : ∃ N, KL.length = N := ⟨_, rfl⟩
  have hNm : (KL.map mkS).length = N := by rw [List.length_map, hNN]
  rw [hNm]
  rw [hNN] at hN
  go_wp2
  go_loopw [10, 3] (fun i v wr => ∃ k : Nat, k ≤ N ∧ i = .int .i64 k ∧ Hid (kMk.R 62 wr w2.heap.size (fun _ => True) v ((KL.map fun x => (mkS x, valAt D x)).take k)) ∧ Hid (Below w2.heap.size w2 wr)) (fun i _ _ => N - (intOf i).toNat)
  case atStart => exact ⟨0, Nat.zero_le _, rfl, Lib.hid (Kd.R_nil _ _ _ _ _), Lib.hid (Below.refl _ _)⟩
  case round =>
    obtain ⟨k, hk, rfl, hR, hbel⟩ := hrel
    have hzr := hbel.out.size
    by_cases hlt : k < N
    · have hkm : k < (KL.map mkS).length := by rw [hNm]; exact hlt
      have hkK : k < KL.length := by rw [hNN]; exact hlt
      obtain ⟨ad, rfl, h0⟩ := strs_at (Kd.C_below HC.out hbel.out) k hkm
      have hx : (KL.map mkS)[k] = mkS KL[k] := by simp
      have HT := Lib.hid (show (KL.map fun x => (mkS x, valAt D x)).take (k + 1) = (KL.map fun x => (mkS x, valAt D x)).take k ++ [(mkS KL[k], valAt D KL[k])] by
        rw [List.take_succ_eq_append_getElem (by rw [List.length_map]; exact hkK)]; simp)
      have hsz := HKB.out KL[k] (List.getElem_mem _)
      have htl : ((KL.map fun x => (mkS x, valAt D x)).take k).length = k := by rw [List.length_take, List.length_map]; omega
      rw [hx] at h0
      generalize KL[k] = x at h0 HT hsz
      obtain ⟨s, hs⟩ : ∃ s, mkS x = s := ⟨_, rfl⟩
      have hkey : keyOf Tryd.prog 9 (.string s) = some (.string x) := by
        rw [← hs]
        have := WideMaps.keyOf_string_mk (P := Tryd.prog) (k := 9) Tryd.underlying9 (s := mkS x) (by simpa [mkS, ByteArray.size] using hsz)
        simpa [mkS] using this
      rw [hs] at h0 HT
      have HTL := Lib.hid htl
      have HMr := Lib.hid (map_below HM.out hbel.out)
      clear hs hx hkm hkK htl
      go_wp2_with (first
        | (at_lookup; refine wpList_lookup_own_int _ rfl _ _ 111 rfl 9 74 .i8 law Tryd.underlying111 Tryd.underlying74 (zeroE _) b nn D rfl HMr.out _ _ rfl hkey ?_; intro c8 hat hwc; have hw8 := wrap_i8_64 hwc; have HAT := Lib.hid hat; clear hat hwc)
        | (at_builtin; refine kapp (w0 := w2) kMk w2.heap.size rfl _ _ 59 62 (.agg #[.string ⟨#[]⟩, .int .i64 0]) 24 rfl Tryd.underlying59 (by kernel_rfl) rfl (by decide) (by decide) _ ((KL.map fun x => (mkS x, valAt D x)).take k) (s, c8) [.string s, .int .i64 c8] (fun _ => True) (fun _ => False) _ rfl rfl (by intro q u hq; rw [cell_of_heap (heap_new _ _)]; simpa using hq) (mark_M _ _ _ _ _) (fun _ h => h.elim) (fun _ _ => trivial) (Kd.R_alloc hR.out _) (hbel.out.alloc hzr _) (by simp; omega) (by rw [HTL.out]; omega) ?_; intro v4 w4 hR4 hB4 hg4 hat4; have HR4 := Lib.hid hR4; have HB4 := Lib.hid hB4; clear hg4 hat4 hR4 hB4)
        | go_in)
      have HR5 := Lib.hid (show kMk.R 62 w4 w2.heap.size (fun _ => True) v4 ((KL.map fun x => (mkS x, valAt D x)).take (k + 1)) by
        have hv : valAt D x = c8 := by unfold valAt; rw [HAT.out]
        rw [HT.out, hv]
        exact HR4.out)
      exact ⟨⟨k + 1, by omega, by go_num, HR5, HB4⟩, by simp [intOf]; omega⟩
    · obtain rfl : k = N := by omega
      have h := hR.out
      rw [List.take_of_length_le (by rw [List.length_map]; omega)] at h
      have HBB := Lib.hid (HL2.out.trans (hbel.out.mono hwz))
      have HR := Lib.hid h
      clear h hR
      go_wp2
      go_ret
      refine ⟨_, rfl, ?_, HBB.out⟩
      rw [HBACK.out]
      exact Kd.R_lower HR.out hwz
end Go.Proofs.YtaniafohcaiedaaDoor.M
