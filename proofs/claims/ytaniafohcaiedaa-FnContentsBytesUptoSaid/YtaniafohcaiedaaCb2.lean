/-
  The walks of Contents.WriteTo and impl.ContentsBytes.
-/
import Derived.Test.YtaniafohcaiedaaCb1
set_option linter.unusedVariables false
set_option linter.unusedSimpArgs false
namespace Go.Proofs.Ytaniafohcaiedaa.Tx
open Go.RowKit Go.Proofs.Ytaniafohcaiedaa.K Go.Proofs.YtaniafohcaiedaaW.PrintWords Go.Proofs.Ytaniafohcaiedaa.Z

/-- The rows' texts. -/
def rj (xs : List (List ByteArray)) : List ByteArray := xs.map fun r => pj 7 r r.length
theorem rj_length (xs : List (List ByteArray)) : (rj xs).length = xs.length := by simp [rj]
/-- What is written behind k rows, each with its line feed. -/
def wrt (R : List ByteArray) (k : Nat) : List Int := if k = 0 then [] else bytesOf (pj 10 R k ++ one 10)
theorem wrt_step (R : List ByteArray) (k : Nat) (h : k < R.length) : wrt R k ++ bytesOf (R[k] ++ one 10) = wrt R (k + 1) := by
  unfold wrt
  rw [if_neg (Nat.succ_ne_zero k)]
  by_cases h0 : k = 0
  · rw [if_pos h0, List.nil_append, ← pj_first 10 R k h h0]
    subst h0
    refine congrArg bytesOf (ba_ext ?_)
    simp [pj, jn, ofL]
  · rw [if_neg h0, ← bytesOf_append, ← pj_next 10 R k h h0]
    refine congrArg bytesOf (ba_ext ?_)
    simp [ByteArray.data_append]
theorem wrt_last (R : List ByteArray) (k : Nat) (h : k < R.length) (h0 : k ≠ 0) : wrt R k ++ bytesOf R[k] = bytesOf (pj 10 R (k + 1)) := by
  unfold wrt
  rw [if_neg h0, ← bytesOf_append, ← pj_next 10 R k h h0]
theorem wrt_length (R : List ByteArray) (k : Nat) : (wrt R k).length ≤ bulkT R + 1 := by
  unfold wrt
  split
  · simp
  · rw [bytesOf_length, ByteArray.size_append]
    have := pj_size 10 R k
    have : (one 10).size = 1 := rfl
    omega

set_option maxHeartbeats 2000000 in
set_option maxRecDepth 5000 in
theorem writeTo_any (A : Option Addr) (cap : Nat) (xs : List (List ByteArray)) (B b : Nat) (w : World) (hb : Buf B b [] w) (hB : B ≤ w.heap.size) (hl : bulkT (rj xs) ≤ 4194304) (hne : ∀ r ∈ xs, r ≠ []) (hbt : ∀ r ∈ xs, bulkT r ≤ 4194304) (h2 : 2 ≤ xs.length)
    (hC : ∀ w', Below B w w' → (Kd.slice 9 Kd.string).C w' A xs.length xs) :
    Calls Try.prog 44 #[.slice A xs.length cap, .iface 80 (.pointer (some ⟨b, 0, none⟩))] w fun e w' =>
      e = .returned (.tuple #[.int .i64 (pj 10 (rj xs) xs.length).size, .nilIface]) ∧ Buf B b (bytesOf (pj 10 (rj xs) xs.length)) w' ∧ Below B w w' := by
  have hm := (hC w (Below.refl _ _)).2.1
  have HC := Lib.hid hC
  have HB0 := Lib.hid hb
  have HNE := Lib.hid hne
  have HBT := Lib.hid hbt
  have hr : ∀ k (h : k < xs.length), (rj xs)[k]'(by rw [rj_length]; exact h) = pj 7 xs[k] xs[k].length := fun k h => by simp [rj]
  have HR := Lib.hid hr
  have h10 : (one 10).size = 1 := rfl
  clear hC hb hne hbt hr
  go_enter Try.func44, Try.ntmps44
  go_wp2
  go_loopw [15, 4] (fun i n wr => ∃ k : Nat, k + 1 ≤ xs.length ∧ i = .int .i64 k ∧ n = .int .i64 (wrt (rj xs) k).length ∧ Hid (Buf B b (wrt (rj xs) k) wr) ∧ Hid (Below B w wr)) (fun i _ _ => xs.length - (intOf i).toNat)
  case atStart => exact ⟨0, by omega, rfl, rfl, HB0, Lib.hid (Below.refl _ _)⟩
  case round =>
    obtain ⟨k, hk, rfl, rfl, hBf, hBl⟩ := hrel
    have hs3 : B ≤ wr.heap.size := Nat.le_trans hB hBl.out.size
    by_cases hlt : k + 1 < xs.length
    · obtain ⟨ad, A', c', rfl, hs, hl', hC'⟩ := rows_at (HC.out wr hBl.out) k (by omega)
      have hrow := HR.out k (by omega)
      have hmem : xs[k] ∈ xs := List.getElem_mem (by omega)
      go_wp2_with fail
      refine (join_any A' c' xs[k] 7 wr hC' (HNE.out _ hmem) hl' (Nat.le_trans (HBT.out _ hmem) (by omega))).mono ?_
      rintro e w4 ⟨rfl, hw4⟩
      have HB4 := Lib.hid (hBf.out.keeps (S := fun i => wr.heap.size ≤ i) (Keeps.of_below hw4) (by have := hBf.out.lt; omega) (fun i hi hs => by omega))
      have HL4 := Lib.hid (hBl.out.trans (hw4.mono hs3))
      have hs4 : B ≤ w4.heap.size := Nat.le_trans hB HL4.out.size
      have hpj := pj_size 7 xs[k] xs[k].length
      have hbk := HBT.out _ hmem
      have hwl := wrt_length (rj xs) k
      have hap : (pj 7 xs[k] xs[k].length ++ one 10).size = (pj 7 xs[k] xs[k].length).size + 1 := by rw [ByteArray.size_append]; rfl
      have HST := Lib.hid (wrt_step (rj xs) k (by rw [rj_length]; omega))
      rw [hrow] at HST
      clear hw4 hC' hs
      go_wp2_with fail
      refine (text_any B b _ (pj 7 xs[k] xs[k].length ++ one 10) w4 HB4.out hs4 (by omega)).mono ?_
      rintro e w5 ⟨rfl, hb5, hl5, _⟩
      rw [HST.out] at hb5
      have hlen := congrArg List.length HST.out
      rw [List.length_append, bytesOf_length] at hlen
      have HB5 := Lib.hid hb5
      have HL5 := Lib.hid (HL4.out.trans hl5)
      clear hb5 hl5
      go_wp2
      exact ⟨⟨k + 1, by omega, by go_num, by rw [← hlen]; go_num, HB5, HL5⟩, by simp [intOf]; omega⟩
    · obtain ⟨ad, A', c', rfl, hs, hl', hC'⟩ := rows_at (HC.out wr hBl.out) k (by omega)
      have hrow := HR.out k (by omega)
      have hmem : xs[k] ∈ xs := List.getElem_mem (by omega)
      have hkn : (xs.length : Int) - 1 = k := by omega
      go_wp2_with fail
      refine (join_any A' c' xs[k] 7 wr hC' (HNE.out _ hmem) hl' (Nat.le_trans (HBT.out _ hmem) (by omega))).mono ?_
      rintro e w4 ⟨rfl, hw4⟩
      have HB4 := Lib.hid (hBf.out.keeps (S := fun i => wr.heap.size ≤ i) (Keeps.of_below hw4) (by have := hBf.out.lt; omega) (fun i hi hs => by omega))
      have HL4 := Lib.hid (hBl.out.trans (hw4.mono hs3))
      have hs4 : B ≤ w4.heap.size := Nat.le_trans hB HL4.out.size
      have hpj := pj_size 7 xs[k] xs[k].length
      have hbk := HBT.out _ hmem
      have hwl := wrt_length (rj xs) k
      have HST := Lib.hid (wrt_last (rj xs) k (by rw [rj_length]; omega) (by omega))
      rw [hrow] at HST
      clear hw4 hC' hs
      go_wp2_with fail
      refine (text_any B b _ (pj 7 xs[k] xs[k].length) w4 HB4.out hs4 (by omega)).mono ?_
      rintro e w5 ⟨rfl, hb5, hl5, _⟩
      rw [HST.out, show k + 1 = xs.length by omega] at hb5
      have hlen := congrArg List.length HST.out
      rw [List.length_append, bytesOf_length, bytesOf_length, show k + 1 = xs.length by omega] at hlen
      have hpb := pj_size 10 (rj xs) xs.length
      have HB5 := Lib.hid hb5
      have HL5 := Lib.hid (HL4.out.trans hl5)
      clear hb5 hl5
      go_wp2
      go_ret2
      refine ⟨?_, HB5.out, HL5.out⟩
      have hc : ((wrt (rj xs) k).length : Int) + ((pj 7 xs[k] xs[k].length).size : Int) = ((pj 10 (rj xs) xs.length).size : Int) := by omega
      rw [hc]
      rfl

set_option maxHeartbeats 1000000 in
set_option maxRecDepth 5000 in
theorem cbytes_any (A : Option Addr) (cap : Nat) (xs : List (List ByteArray)) (w : World) (hC : (Kd.slice 9 Kd.string).C w A xs.length xs) (hl : bulkT (rj xs) ≤ 4194304) (hne : ∀ r ∈ xs, r ≠ []) (hbt : ∀ r ∈ xs, bulkT r ≤ 4194304) (h2 : 2 ≤ xs.length) :
    Calls Try.prog 26 #[.slice A xs.length cap] w fun e w' => ∃ v, e = .returned (.tuple #[v, .int .i64 0]) ∧ w'.ownsRow w.heap.size U8 1 v (pj 10 (rj xs) xs.length).size (nums .u8 (bytesOf (pj 10 (rj xs) xs.length))) ∧ Below w.heap.size w w' := by
  have hbuf : Buf w.heap.size w.heap.size [] (w.alloc (.cells #[.slice none 0 0, .int .i64 0, .int .i8 0] tBuf)) := LibA.of_whole (Lib.fresh_isBuffer tBuf U8 w)
  have HBuf := Lib.hid hbuf
  have HLb := Lib.hid (below_alloc (Below.refl w.heap.size w) (.cells #[.slice none 0 0, .int .i64 0, .int .i8 0] tBuf))
  have HC := Lib.hid hC
  have HNE := Lib.hid hne
  have HBT := Lib.hid hbt
  clear hC hbuf hne hbt
  go_enter Try.func26, Try.ntmps26
  go_wp2_with fail
  refine (writeTo_any A cap xs w.heap.size w.heap.size _ HBuf.out (by simp) hl HNE.out HBT.out h2 (fun w' hw => Kd.C_below HC.out (HLb.out.trans hw))).mono ?_
  rintro e w1 ⟨rfl, hb1, hl1⟩
  have HB1 := Lib.hid hb1
  have HL1 := Lib.hid (HLb.out.trans hl1)
  have hlen : (nums .u8 (bytesOf (pj 10 (rj xs) xs.length))).length = (pj 10 (rj xs) xs.length).size := by rw [nums_length, bytesOf_length]
  clear hb1 hl1
  go_wp2_with fail
  refine (Try.Buffer_Len_at tBuf (fun _ => none) w.heap.size w.heap.size 0 _ w1 HB1.out).mono ?_
  rintro e w2 ⟨rfl, n2, rfl⟩
  rw [hlen]
  go_wp2_with fail
  refine (Try.Buffer_Bytes w.heap.size w.heap.size _ _ (buf_whole (show Buf w.heap.size w.heap.size (bytesOf (pj 10 (rj xs) xs.length)) (w1.drewN n2) from HB1.out))).mono ?_
  rintro e w3 ⟨v, rfl, ho3, n3, rfl⟩
  rw [hlen] at ho3
  have HO := Lib.hid ho3
  clear ho3
  go_wp2
  go_ret2
  exact ⟨_, rfl, HO.out, pw_below_drewN HL1.out _⟩
end Go.Proofs.Ytaniafohcaiedaa.Tx
