/-
  The walks of Morphs.WriteTo and impl.MorphBytes.
-/
import Derived.Test.YtaniafohcaiedaaDoorT3
import Derived.Test.YtaniafohcaiedaaDoorCa
set_option linter.unusedVariables false
set_option linter.unusedSimpArgs false
namespace Go.Proofs.YtaniafohcaiedaaDoor.Z
open Go.RowKit Go.Proofs.YtaniafohcaiedaaDoor.K Go.Proofs.YtaniafohcaiedaaDoorW.PrintWords

def le3 (x : T3) : List Int := leB x.1 2 ++ leB x.2.1 2 ++ leB x.2.2 2
theorem le3_length (x : T3) : (le3 x).length = 6 := by simp [le3, leB_length]
def le3s (xs : List T3) : List Int := xs.flatMap le3
theorem le3s_length (xs : List T3) : (le3s xs).length = 6 * xs.length := by
  induction xs with
  | nil => rfl
  | cons x xs ih => rw [le3s, List.flatMap_cons, List.length_append, le3_length, ← le3s, ih, List.length_cons]; omega
theorem le3s_take (xs : List T3) (k : Nat) (hk : k < xs.length) : le3s (xs.take (k + 1)) = le3s (xs.take k) ++ le3 xs[k] := by
  rw [List.take_succ_eq_append_getElem hk, le3s, List.flatMap_append]; simp [le3s]
theorem R_others {α : Type} {d : Kd α} {e b : Nat} {w w' : World} {base : Nat} {ok : Nat → Prop} {v : Value} {xs : List α} (h : d.R e w base ok v xs) (he : ∀ q, q ∈ e :: d.E → q ≠ U8 ∧ q ≠ tBuf)
    {cs : Array Value} (hb : w.heap[b]? = some (.cells cs tBuf (0, 0))) (ho : Lib.OthersKept U8 (some b) w w') : d.R e w' base ok v xs := by
  refine Kd.R_mono (Kd.R_move (Kd.R_bound h) fun k hk => ?_) (fun _ hk => hk.1)
  obtain ⟨_, _, _, q, hq, cells, hc⟩ := hk
  rw [hc]
  refine ho k _ hc ?_ ?_
  · intro e'
    obtain rfl : k = b := by simpa using e'
    rw [hc] at hb
    injection hb with hb
    injection hb with _ hb
    exact (he q hq).2 hb
  · rintro c fz e'
    injection e' with _ e' _
    exact (he q hq).1 e'

set_option maxHeartbeats 2000000 in
set_option maxRecDepth 5000 in
theorem m_writeTo (A : Option Addr) (c : Nat) (xs : List T3) (B b : Nat) (bs : List Int) (w : World) (hb : Buf B b bs w) (hB : B ≤ w.heap.size) (hl : bs.length + 8 + 6 * xs.length ≤ 140737488355328)
    (hC : ∀ w', Below B w w' → Lib.OthersKept U8 (some b) w w' → (kT .i16).C w' A xs.length xs) :
    Calls Tryd.prog 48 #[.slice A xs.length c, .iface 82 (.pointer (some ⟨b, 0, none⟩))] w fun e w' =>
      e = .returned (.tuple #[.int .i64 (8 + 6 * xs.length : Nat), .nilIface]) ∧ Buf B b (bs ++ leB xs.length 8 ++ le3s xs) w' ∧ Below B w w' ∧ Lib.OthersKept U8 (some b) w w' := by
  have HC := Lib.hid hC
  have HB0 := Lib.hid hb
  clear hC hb
  go_enter Tryd.func48, Tryd.ntmps48
  go_wp2_with fail
  refine (write_i64 B b bs xs.length _ HB0.out hB (by omega)).mono ?_
  rintro e w1 ⟨rfl, hb1, hl1, ho1⟩
  have HB1 := Lib.hid hb1
  have HO1 := Lib.hid ho1
  have HL1 := Lib.hid hl1
  have hs1 : B ≤ w1.heap.size := Nat.le_trans hB HL1.out.size
  clear hb1 hl1 ho1
  go_wp2_with fail
  refine (size_i64 xs.length w1).mono ?_
  rintro e w1' ⟨rfl, rfl⟩
  go_wp2
  go_loopw [27, 4] (fun i n wr => ∃ k : Nat, k ≤ xs.length ∧ i = .int .i64 k ∧ n = .int .i64 (8 + 6 * k : Nat) ∧ Hid (Buf B b (bs ++ leB xs.length 8 ++ le3s (xs.take k)) wr) ∧ Hid (Below B w wr) ∧ Hid (Lib.OthersKept U8 (some b) w wr)) (fun i _ _ => xs.length - (intOf i).toNat)
  case atStart => exact ⟨0, Nat.zero_le _, rfl, rfl, Lib.hid (by simpa [le3s] using HB1.out), HL1, HO1⟩
  case round =>
    obtain ⟨k, hk, rfl, rfl, hB3, hL3, hO3⟩ := hrel
    by_cases hlt : k < xs.length
    · have hs3 : B ≤ wr.heap.size := Nat.le_trans hB hL3.out.size
      obtain ⟨ad, hA, _, p0, p1, p2⟩ := t3_at (HC.out wr hL3.out hO3.out) k hlt
      subst hA
      go_wp2_with fail
      refine (write_i16 B b _ xs[k].1 wr hB3.out hs3 (by simp only [List.length_append, leB_length, le3s_length, List.length_take]; omega)).mono ?_
      rintro e w4 ⟨rfl, hb4, hl4, ho4⟩
      have HB4 := Lib.hid hb4
      have HO4 := Lib.hid (hO3.out.trans ho4)
      have HL4 := Lib.hid (hL3.out.trans hl4)
      have hs4 : B ≤ w4.heap.size := Nat.le_trans hB HL4.out.size
      clear hb4 hl4 ho4 p0 p1 p2
      obtain ⟨ad', had', _, p0, p1, p2⟩ := t3_at (HC.out _ HL4.out HO4.out) k hlt
      obtain rfl := Option.some.inj had'
      go_wp2_with fail
      refine (size_i16 xs[k].1 w4).mono ?_
      rintro e w4' ⟨rfl, rfl⟩
      go_wp2_with fail
      refine (write_i16 B b _ xs[k].2.1 _ HB4.out hs4 (by simp only [List.length_append, leB_length, le3s_length, List.length_take]; omega)).mono ?_
      rintro e w5 ⟨rfl, hb5, hl5, ho5⟩
      have HB5 := Lib.hid hb5
      have HO5 := Lib.hid (HO4.out.trans ho5)
      have HL5 := Lib.hid (HL4.out.trans hl5)
      have hs5 : B ≤ w5.heap.size := Nat.le_trans hB HL5.out.size
      clear hb5 hl5 ho5 p0 p1 p2 had'
      obtain ⟨ad', had', _, p0, p1, p2⟩ := t3_at (HC.out _ HL5.out HO5.out) k hlt
      obtain rfl := Option.some.inj had'
      go_wp2_with fail
      refine (size_i16 xs[k].2.1 w5).mono ?_
      rintro e w5' ⟨rfl, rfl⟩
      go_wp2_with fail
      refine (write_i16 B b _ xs[k].2.2 _ HB5.out hs5 (by simp only [List.length_append, leB_length, le3s_length, List.length_take]; omega)).mono ?_
      rintro e w6 ⟨rfl, hb6, hl6, ho6⟩
      have HB6 := Lib.hid hb6
      have HO6 := Lib.hid (HO5.out.trans ho6)
      have HL6 := Lib.hid (HL5.out.trans hl6)
      clear hb6 hl6 ho6 p0 p1 p2 had'
      obtain ⟨ad', had', _, p0, p1, p2⟩ := t3_at (HC.out _ HL6.out HO6.out) k hlt
      obtain rfl := Option.some.inj had'
      go_wp2_with fail
      refine (size_i16 xs[k].2.2 w6).mono ?_
      rintro e w6' ⟨rfl, rfl⟩
      go_wp2
      refine ⟨⟨k + 1, by omega, by go_num, by go_num, Lib.hid ?_, HL6, HO6⟩, by simp [intOf]; omega⟩
      rw [le3s_take _ _ hlt]
      simpa [le3, List.append_assoc] using HB6.out
    · obtain rfl : k = xs.length := by omega
      have hbb := hB3.out
      rw [List.take_length] at hbb
      have HBB := Lib.hid hbb
      clear hbb
      go_wp2
      go_ret2
      exact ⟨rfl, HBB.out, hL3.out, hO3.out⟩

theorem buf_three {B b : Nat} {xs : List Int} {w : World} (h : Buf B b xs w) : LibA.Three w b 0 tBuf (fun _ => none) (h.2.choose) (.int .i64 0) (.int .i8 h.2.choose_spec.choose) := h.2.choose_spec.choose_spec.1
def M16 (xs : List T3) : List T3 := xs.map w16
set_option maxHeartbeats 2000000 in
set_option maxRecDepth 5000 in
theorem m_bytes (A : Option Addr) (c : Nat) (xs : List T3) (w : World) (hC : (kT .i64).C w A xs.length xs) (hn : xs.length ≤ 2147483647) :
    Calls Tryd.prog 17 #[.slice A xs.length c] w fun e w' => ∃ g cap cur, e = .returned (.tuple #[.slice (some ⟨g, 0, none⟩) (8 + 6 * xs.length) cap, .int .i64 0]) ∧ w.heap.size ≤ g ∧ w'.heap[g]? = some (.cells cur U8 (0, 0)) ∧ 8 + 6 * xs.length ≤ cap ∧ cap ≤ maxLen ∧
      cur.toList.take (8 + 6 * xs.length) = nums .u8 (leB xs.length 8 ++ le3s (M16 xs)) ∧ Below w.heap.size w w' := by
  have hbuf : Buf w.heap.size w.heap.size [] (w.alloc (.cells #[.slice none 0 0, .int .i64 0, .int .i8 0] tBuf)) := LibA.of_whole (Lib.fresh_isBuffer tBuf U8 w)
  have HBuf := Lib.hid hbuf
  have HLb := Lib.hid (below_alloc (Below.refl w.heap.size w) (.cells #[.slice none 0 0, .int .i64 0, .int .i8 0] tBuf))
  have HC := Lib.hid (Kd.C_below hC HLb.out)
  clear hC hbuf
  go_enter Tryd.func17, Tryd.ntmps17
  go_wp2_with fail
  refine (morphs_any A c xs _ HC.out hn).mono ?_
  rintro e w1 ⟨v, rfl, hR, hl1⟩
  have hlb : Below w.heap.size w w1 := HLb.out.trans (hl1.mono (by simp))
  have hb1 : Buf w.heap.size w.heap.size [] w1 := HBuf.out.keeps (S := fun i => w.heap.size + 1 ≤ i) (Keeps.of_below hl1) (by omega) (fun i hi hs => by simp at hi; omega)
  obtain ⟨A1, c1, rfl, hc1, hC1⟩ := Kd.R_reads hR
  have hml : (xs.map w16).length = xs.length := by simp
  have HB1 := Lib.hid hb1
  have HL1 := Lib.hid hlb
  have HR1 := Lib.hid hR
  have hs1 := hlb.size
  clear hl1 hlb hb1 hR hC1
  rw [hml]
  have hb3 : w1.heap[w.heap.size]? = _ := three_back (buf_three HB1.out)
  go_wp2_with fail
  have hw0 := m_writeTo A1 c1 (xs.map w16) w.heap.size w.heap.size [] w1 HB1.out hs1 (by simp; omega) (fun w' hl ho => by
    have h := R_others HR1.out (by intro q hq; simp [kT] at hq; subst hq; decide) hb3 ho
    obtain ⟨A2, c2, he, _, hC2⟩ := Kd.R_reads h
    injection he with h1 h2 h3
    rw [h1]
    exact hC2)
  rw [hml] at hw0
  refine hw0.mono ?_
  rintro e w2 ⟨rfl, hb2, hl2, ho2⟩
  have HB2 := Lib.hid (show Buf w.heap.size w.heap.size (leB xs.length 8 ++ le3s (M16 xs)) w2 from hb2)
  have HL2 := Lib.hid (HL1.out.trans hl2)
  have hlen : (nums .u8 (leB xs.length 8 ++ le3s (M16 xs))).length = 8 + 6 * xs.length := by simp [nums, leB_length, le3s_length, M16]
  clear hb2 hl2 ho2 hw0 hb3
  go_wp2_with fail
  refine (Tryd.Buffer_Len_at tBuf (fun _ => none) w.heap.size w.heap.size 0 _ w2 HB2.out).mono ?_
  rintro e w3 ⟨rfl, n3, rfl⟩
  rw [hlen]
  have HB3 : Hid (Buf w.heap.size w.heap.size (leB xs.length 8 ++ le3s (M16 xs)) (w2.drewN n3)) := Lib.hid HB2.out
  have HL3 := Lib.hid (pw_below_drewN HL2.out n3)
  go_wp2_with fail
  refine (Tryd.Buffer_Bytes w.heap.size w.heap.size _ _ (buf_whole HB3.out)).mono ?_
  rintro e w4 ⟨v4, rfl, ho4, n4, rfl⟩
  rw [hlen] at ho4
  have HO4 := Lib.hid ho4
  have HL4 := Lib.hid (pw_below_drewN HL3.out n4)
  clear ho4
  go_wp2
  go_ret2
  rcases HO4.out.2 with ⟨_, h⟩ | ⟨g, cap, cur, rfl, h2, h3, h4, h5, h6, h7⟩
  · omega
  · exact ⟨g, cap, cur, rfl, h2, h3, h4, h5, by simpa using h7, pw_below_drewN HL2.out _⟩
end Go.Proofs.YtaniafohcaiedaaDoor.Z
