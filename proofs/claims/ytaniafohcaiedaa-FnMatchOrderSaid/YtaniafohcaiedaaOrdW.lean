/-
  The walks of laws.noAny and laws.FnMatchOrder.
-/
import Derived.Test.YtaniafohcaiedaaTakes
import Derived.Test.YtaniafohcaiedaaHasStr
import Derived.Test.YtaniafohcaiedaaSameBool
import Derived.Test.YtaniafohcaiedaaFits
import Derived.Test.YtaniafohcaiedaaTurn
import Derived.Test.YtaniafohcaiedaaOrdM
import Derived.Deep.Slices
set_option linter.unusedVariables false
set_option linter.unusedSimpArgs false
namespace Go.Proofs.Ytaniafohcaiedaa.Flt
open Go.RowKit Go.Proofs.Ytaniafohcaiedaa.K Go.Proofs.YtaniafohcaiedaaW.PrintWords

/-- A list of rows as one of slices' values. -/
theorem toSV {α : Type} {d : Kd α} {q : Nat} {w : World} {A : Option Addr} {n : Nat} {xs : List (List α)} (h : (Kd.slice q d).C w A n xs) :
    ∃ ps : List (List α × SV), ps.map (·.1) = xs ∧ kv.C w A n (ps.map (·.2)) ∧ ∀ p ∈ ps, (Kd.slice q d).K w p.1 [Value.slice p.2.1 p.2.2.1 p.2.2.2] := by
  obtain ⟨hl, hm, hc⟩ := h
  rcases Nat.eq_zero_or_pos n with h0 | h0
  · subst h0
    have : xs = [] := List.eq_nil_of_length_eq_zero hl
    subst this
    exact ⟨[], rfl, ⟨rfl, hm, fun h => absurd h (by omega)⟩, by simp⟩
  · obtain ⟨ad, hA, hcells⟩ := hc h0
    obtain ⟨f, hf⟩ := Deep.choose_lt (α := SV) (n := xs.length) (p := fun j y => ∀ x, xs[j]? = some x → (Kd.slice q d).K w x [Value.slice y.1 y.2.1 y.2.2] ∧ w.cell? (ad.add j) = some (Value.slice y.1 y.2.1 y.2.2)) (by
      intro j hj
      obtain ⟨c, hcl, ⟨A', c', rfl, hk1, hk2⟩, hcc⟩ := hcells j xs[j] (List.getElem?_eq_getElem hj)
      refine ⟨(A', xs[j].length, c'), fun x hx => ?_⟩
      rw [List.getElem?_eq_getElem hj] at hx
      injection hx with hx
      subst hx
      refine ⟨⟨A', c', rfl, hk1, hk2⟩, ?_⟩
      have := hcc 0 _ rfl
      rwa [show (Kd.slice q d).sz = 1 from rfl, Nat.mul_one, Nat.add_zero] at this)
    refine ⟨(List.range xs.length).map fun j => (xs.getD j [], f j), ?_, ⟨by simp [hl], hm, fun _ => ⟨ad, hA, fun j p hp => ?_⟩⟩, ?_⟩
    · apply List.ext_getElem?
      intro j
      by_cases hj : j < xs.length
      · simp [hj, List.getD]
      · simp [hj]
    · rw [List.map_map, List.getElem?_map] at hp
      obtain ⟨i, hi, rfl⟩ := Option.map_eq_some_iff.1 hp
      obtain ⟨hlt, hie⟩ := List.getElem?_eq_some_iff.1 hi
      simp at hlt hie
      subst hie
      refine ⟨_, rfl, rfl, fun i u hu => ?_⟩
      cases i with
      | zero =>
        simp at hu
        subst hu
        rw [show kv.sz = 1 from rfl, Nat.mul_one, Nat.add_zero]
        exact (hf j hlt xs[j] (List.getElem?_eq_getElem hlt)).2
      | succ i => simp at hu
    · intro p hp
      obtain ⟨j, hj, rfl⟩ := List.mem_map.1 hp
      have hlt : j < xs.length := by simpa using hj
      have := (hf j hlt xs[j] (List.getElem?_eq_getElem hlt)).1
      simpa [List.getD, hlt] using this
/-- .. and back. -/
theorem fromSV {α : Type} {d : Kd α} {q : Nat} {w' : World} {A : Option Addr} {n : Nat} {ps : List (List α × SV)} (h : kv.C w' A n (ps.map (·.2))) (hp : ∀ p ∈ ps, (Kd.slice q d).K w' p.1 [Value.slice p.2.1 p.2.2.1 p.2.2.2]) :
    (Kd.slice q d).C w' A n (ps.map (·.1)) := by
  obtain ⟨hl, hm, hc⟩ := h
  refine ⟨by simpa using hl, hm, fun h0 => ?_⟩
  obtain ⟨ad, hA, hcells⟩ := hc h0
  refine ⟨ad, hA, fun j p hj => ?_⟩
  rw [List.getElem?_map] at hj
  obtain ⟨pp, hpp, rfl⟩ := Option.map_eq_some_iff.1 hj
  obtain ⟨c, hcl, hk, hcc⟩ := hcells j pp.2 (by rw [List.getElem?_map, hpp]; rfl)
  have hk' : c = [Value.slice pp.2.1 pp.2.2.1 pp.2.2.2] := hk
  subst hk'
  exact ⟨_, rfl, hp pp (List.mem_of_getElem? hpp), hcc⟩

def RowsRet {α : Type} (d : Kd α) (q : Nat) (xs : List (List α)) (w : World) (e : Ending) (w' : World) : Prop :=
  ∃ A c, e = .returned (.slice A xs.length c) ∧ (Kd.slice q d).C w' A xs.length xs ∧ Below w.heap.size w w'
theorem turned_rows (A : Option Addr) (c : Nat) (xs : List (List ByteArray)) (n : Nat) (hn : n < 256) (w : World) (hc : xs.length ≤ c) (hC : (Kd.slice 9 Kd.string).C w A xs.length xs) (hb : xs.length * 48 ≤ 140737488355328) :
    Calls Try.prog 15 #[.slice A xs.length c, .int .u8 n] w (RowsRet Kd.string 9 (turnL xs n) w) := by
  obtain ⟨ps, rfl, hk, hp⟩ := toSV hC
  have hl : (ps.map (·.2)).length = (ps.map (·.1)).length := by simp
  have h := turned_any A c (ps.map (·.2)) n hn w (by rw [hl]; exact hc) (by rw [hl]; exact hk) (by rw [hl]; exact hb)
  rw [hl] at h
  refine h.mono ?_
  rintro e w1 ⟨v, rfl, hv, hw1⟩
  obtain ⟨A2, c2, rfl, _, hC2⟩ := Kd.R_reads hv
  have hl2 : (turnL (ps.map (·.2)) n).length = (turnL (ps.map (·.1)) n).length := by rw [turnL_map, turnL_map]; simp
  refine ⟨A2, c2, by rw [hl2], ?_, hw1⟩
  rw [turnL_map] at hC2
  have h3 := fromSV (d := Kd.string) (q := 9) hC2 (fun p hpm => (Kd.slice 9 Kd.string).K_below hw1 (hp p ((turnL_perm ps n).mem_iff.1 hpm)))
  rw [turnL_map]
  have e : ((turnL ps n).map (·.2)).length = ((turnL ps n).map (·.1)).length := by simp
  rw [← e]
  exact h3

set_option maxHeartbeats 400000 in
theorem noAny_any (A : Option Addr) (c : Nat) (xs : List (List ByteArray)) (w : World) (hC : (Kd.slice 9 Kd.string).C w A xs.length xs) :
    Calls Try.prog 13 #[.slice A xs.length c] w (BoolIf (∀ f ∈ xs, anyS ∉ f) w) := by
  have hm := hC.2.1
  have HC := Lib.hid hC
  clear hC
  go_enter Try.func13, Try.ntmps13
  go_wp2
  go_loopw [6] (fun i wr => ∃ k : Nat, k ≤ xs.length ∧ i = .int .i64 k ∧ Hid (∀ f ∈ xs.take k, anyS ∉ f) ∧ Below w.heap.size w wr) (fun i _ => xs.length - (intOf i).toNat)
  case atStart => exact ⟨0, Nat.zero_le _, rfl, Lib.hid (by simp), Below.refl _ _⟩
  case round =>
    obtain ⟨k, hk, rfl, hall, hbel⟩ := hrel
    by_cases hlt : k < xs.length
    · obtain ⟨ad, A', c', rfl, hs, hl', hC'⟩ := rows_at HC.out k hlt
      have hs' := (hbel.cell (World.block_lt_of_cell? w _ hs)).trans hs
      have HC' := Lib.hid (Kd.C_below hC' hbel)
      have hsz := hbel.size
      clear hs hl' hC'
      go_wp2_with fail
      refine (hasStr_any A' c' xs[k] anyS wr HC'.out).mono ?_
      rintro e w1 ⟨rfl, hw1⟩
      have HL := Lib.hid (hbel.trans (hw1.mono hsz))
      clear hs' hw1 hbel
      by_cases hmem : anyS ∈ xs[k]
      · rw [memB_true hmem]
        clear hmem
        go_wp2
        go_ret
        exact ⟨false, rfl, by simp, HL.out⟩
      · rw [memB_false hmem]
        have HM := Lib.hid hmem
        clear hmem
        go_wp2
        exact ⟨⟨k + 1, by omega, by go_num, Lib.hid (all_take hlt hall.out HM.out), HL.out⟩, by simp [intOf]; omega⟩
    · have HC' := Lib.hid (Kd.C_below HC.out hbel)
      have hsz := hbel.size
      go_wp2_with fail
      refine (smallLists_any A c xs wr HC'.out).mono ?_
      rintro e w1 ⟨b, rfl, _, hw1⟩
      have HL := Lib.hid (hbel.trans (hw1.mono hsz))
      clear hw1 hbel
      go_wp2
      go_ret
      obtain rfl : k = xs.length := by omega
      have := hall.out
      rw [List.take_length] at this
      exact ⟨_, rfl, fun _ => this, HL.out⟩

set_option maxHeartbeats 1000000 in
theorem order_walk (A B : Option Addr) (c c' : Nat) (fs xs : List (List ByteArray)) (n : Nat) (hn : n < 256) (w : World) (hc : fs.length ≤ c) (hC : (Kd.slice 9 Kd.string).C w A fs.length fs) (hX : (Kd.slice 9 Kd.string).C w B xs.length xs) :
    Calls Try.prog 4 #[.slice A fs.length c, .slice B xs.length c', .int .u8 n] w fun e w' => e = .returned (.bool true) ∧ Below w.heap.size w w' := by
  have HC := Lib.hid hC
  have HX := Lib.hid hX
  have HCC := Lib.hid hc
  clear hC hX hc
  go_enter Try.func4, Try.ntmps4
  go_wp2_with fail
  refine (zzFits6_any A c fs w HC.out).mono ?_
  rintro e w1 ⟨b1, rfl, hb1, hw1⟩
  have HB1 := Lib.hid hb1
  have HL1 := Lib.hid hw1
  have hsz1 := hw1.size
  clear hb1 hw1
  cases b1
  · go_wp2
    go_ret
    exact ⟨rfl, HL1.out⟩
  have HX1 := Lib.hid (Kd.C_below HX.out HL1.out)
  go_wp2_with fail
  refine (zzFits6_any B c' xs w1 HX1.out).mono ?_
  rintro e w2 ⟨b2, rfl, hb2, hw2⟩
  have HB2 := Lib.hid hb2
  have HL2 := Lib.hid (HL1.out.trans (hw2.mono hsz1))
  have hsz2 := hw2.size
  clear hb2 hw2
  cases b2
  · go_wp2
    go_ret
    exact ⟨rfl, HL2.out⟩
  have HC2 := Lib.hid (Kd.C_below HC.out HL2.out)
  go_wp2_with fail
  refine (noAny_any A c fs w2 HC2.out).mono ?_
  rintro e w3 ⟨b3, rfl, hb3, hw3⟩
  have HB3 := Lib.hid hb3
  have HL3 := Lib.hid (HL2.out.trans (hw3.mono (by omega)))
  have hsz3 := hw3.size
  clear hb3 hw3
  cases b3
  · go_wp2_with fail
    refine (takes_any w3).mono ?_
    rintro e w4 ⟨rfl, hw4⟩
    have HL4 := Lib.hid (HL3.out.trans (hw4.mono (by omega)))
    clear hw4
    go_wp2
    go_ret
    exact ⟨rfl, HL4.out⟩
  have HX3 := Lib.hid (Kd.C_below HX.out HL3.out)
  go_wp2_with fail
  refine (smallLists_any B c' xs w3 HX3.out).mono ?_
  rintro e w4 ⟨b4, rfl, _, hw4⟩
  have HL4 := Lib.hid (HL3.out.trans (hw4.mono (by omega)))
  have hsz4 := hw4.size
  clear hw4
  cases b4
  · go_wp2_with fail
    refine (takes_any w4).mono ?_
    rintro e w5 ⟨rfl, hw5⟩
    have HL5 := Lib.hid (HL4.out.trans (hw5.mono (by omega)))
    clear hw5
    go_wp2
    go_ret
    exact ⟨rfl, HL5.out⟩
  have hf1 : fits6 fs := HB1.out trivial
  have hf2 : fits6 xs := HB2.out trivial
  have hna := HB3.out trivial
  have hm1 : ∀ ys : List (List ByteArray), ys.Perm fs → (∀ x ∈ ys, x.length * 16 ≤ 140737488355328) ∧ ys.length * 24 ≤ 140737488355328 := by
    intro ys hp
    refine ⟨fun x hx => ?_, ?_⟩
    · have := (hf1.2 x (hp.mem_iff.1 hx)).1; omega
    · have := hf1.1; rw [hp.length_eq]; omega
  have hm2 : ∀ x ∈ xs, x.length ≤ maxLen := fun x hx => by have := (hf2.2 x hx).1; simp only [maxLen]; omega
  have hm3 : xs.length ≤ 140737488355328 := by have := hf2.1; omega
  have hm4 : fs.length * 48 ≤ 140737488355328 := by have := hf1.1; omega
  have HM1 := Lib.hid hm1
  have HM2 := Lib.hid hm2
  have HM3 := Lib.hid hm3
  have HM4 := Lib.hid hm4
  have HNA := Lib.hid hna
  have HC4 := Lib.hid (Kd.C_below HC.out HL4.out)
  have HX4 := Lib.hid (Kd.C_below HX.out HL4.out)
  clear hf1 hf2 hna hm1 hm2 hm3 hm4
  go_wp2_with fail
  refine (Match_any A B c c' fs xs w4 HC4.out HX4.out (HM1.out fs (List.Perm.refl _)).1 (HM1.out fs (List.Perm.refl _)).2 HM2.out HM3.out).mono ?_
  rintro e w5 ⟨v, rfl, hv, hw5⟩
  obtain ⟨A5, c5, rfl, _, hC5⟩ := Kd.R_reads hv
  rw [List.length_map] at hC5 ⊢
  have HC5 := Lib.hid hC5
  have HL5 := Lib.hid (HL4.out.trans (hw5.mono (by omega)))
  have hsz5 := hw5.size
  have HC5' := Lib.hid (Kd.C_below HC.out HL5.out)
  clear hv hC5 hw5
  go_wp2_with fail
  refine (turned_rows A c fs n hn w5 HCC.out HC5'.out HM4.out).mono ?_
  rintro e w6 ⟨A6, c6, rfl, hC6, hw6⟩
  have HC6 := Lib.hid hC6
  have HL6 := Lib.hid (HL5.out.trans (hw6.mono (by omega)))
  have hsz6 := hw6.size
  have HX6 := Lib.hid (Kd.C_below HX.out HL6.out)
  have HC56 := Lib.hid (Kd.C_below HC5.out hw6)
  clear hC6 hw6
  have hp := turnL_perm fs n
  have HP := Lib.hid hp
  clear hp
  go_wp2_with fail
  refine (Match_any A6 B c6 c' (turnL fs n) xs w6 HC6.out HX6.out (HM1.out _ HP.out).1 (HM1.out _ HP.out).2 HM2.out HM3.out).mono ?_
  rintro e w7 ⟨v, rfl, hv, hw7⟩
  have heq : xs.map (takesAll (turnL fs n)) = xs.map (takesAll fs) := by
    apply List.map_congr_left
    intro x _
    exact takesAll_perm HNA.out HP.out x
  rw [heq] at hv
  obtain ⟨A7, c7, rfl, _, hC7⟩ := Kd.R_reads hv
  have HL7 := Lib.hid (HL6.out.trans (hw7.mono (by omega)))
  have hsz7 := hw7.size
  have HC57 := Lib.hid (Kd.C_below HC56.out hw7)
  rw [List.length_map] at hC7 ⊢
  have HC7 := Lib.hid hC7
  clear heq hv hC7 hw7
  have hS := sameBool_any A5 A7 c5 c7 (xs.map (takesAll fs)) (xs.map (takesAll fs)) w7 (by rw [List.length_map]; exact HC57.out) (by rw [List.length_map]; exact HC7.out)
  rw [List.length_map, decide_eq_true rfl] at hS
  have HS := Lib.hid hS
  clear hS
  go_wp2_with fail
  refine HS.out.mono ?_
  rintro e w8 ⟨rfl, hw8⟩
  have HL8 := Lib.hid (HL7.out.trans (hw8.mono (by omega)))
  have hsz8 := hw8.size
  clear hw8
  go_wp2_with fail
  refine (takes_any w8).mono ?_
  rintro e w9 ⟨rfl, hw9⟩
  have HL9 := Lib.hid (HL8.out.trans (hw9.mono (by omega)))
  clear hw9
  go_wp2
  go_ret
  exact ⟨rfl, HL9.out⟩
end Go.Proofs.Ytaniafohcaiedaa.Flt
