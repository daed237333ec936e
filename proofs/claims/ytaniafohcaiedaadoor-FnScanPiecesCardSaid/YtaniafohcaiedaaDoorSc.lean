/-
  The walks of isDelim, isFollower and ScanSentences (no white space is left out, two line feeds are no end), over an oracle that decodes.
-/
import Derived.Test.YtaniafohcaiedaaDoorK
import Derived.Test.YtaniafohcaiedaaDoorRows
import Derived.Outline
import Derived.Deep.QuietTactic
import Derived.BigQuiet
set_option linter.unusedVariables false
set_option linter.unusedSimpArgs false
namespace Go.Proofs.YtaniafohcaiedaaDoor.Sn
open Go.RowKit Go.Proofs.YtaniafohcaiedaaDoor.K Go.Proofs.YtaniafohcaiedaaDoorW.PrintWords

theorem runes_at {w : World} {k : IntKind} {A : Option Addr} {n : Nat} {xs : List Int} (h : (Kd.int k).C w A n xs) : ∀ j (hj : j < xs.length), ∃ ad, A = some ad ∧ w.cell? (ad.add j) = some (.int k xs[j]) := by
  intro j hj
  obtain ⟨ad, hA, hc⟩ := h.2.2 (by have := h.1; omega)
  obtain ⟨c, hl, hk, hcell⟩ := hc j xs[j] (List.getElem?_eq_getElem hj)
  have hk' : c = [.int k xs[j]] := hk
  subst hk'
  have := hcell 0 _ rfl
  have e : (Kd.int k).sz = 1 := rfl
  rw [e, Nat.mul_one, Nat.add_zero] at this
  exact ⟨ad, hA, this⟩
/-- A splitter as it is handed on. -/
abbrev splV (D F : Option Addr) (nd cd nf cf : Nat) (sk db : Bool) (most : Int) : Value := .agg #[.slice D nd cd, .slice F nf cf, .bool sk, .bool db, .int .i64 most]
theorem memB_take {xs : List Int} {x : Int} {k : Nat} (hk : k < xs.length) (h : x ∉ xs.take k) (h1 : xs[k] ≠ x) : x ∉ xs.take (k + 1) := by
  rw [List.take_succ_eq_append_getElem hk]
  intro hm
  rcases List.mem_append.1 hm with hm | hm
  · exact h hm
  · exact h1 (List.mem_singleton.1 hm).symm

set_option maxHeartbeats 1000000 in
set_option maxRecDepth 5000 in
theorem isDelim_any (D F : Option Addr) (cd nf cf : Nat) (sk db : Bool) (most r : Int) (dl : List Int) (w : World) (hD : (Kd.int .i32).C w D dl.length dl) :
    Calls Tryd.prog 73 #[splV D F dl.length cd nf cf sk db most, .int .i32 r] w fun e w' => e = .returned (.bool (memB r dl)) ∧ Below w.heap.size w w' := by
  have HD := Lib.hid hD
  have hm := hD.2.1
  clear hD
  go_enter Tryd.func73, Tryd.ntmps73
  go_wp2
  go_loopw [10] (fun i wr => ∃ k : Nat, k ≤ dl.length ∧ i = .int .i64 k ∧ Hid (r ∉ dl.take k) ∧ wr = w.alloc (.cells #[.slice D dl.length cd, .slice F nf cf, .bool sk, .bool db, .int .i64 most] 104)) (fun i _ => dl.length - (intOf i).toNat)
  case atStart => exact ⟨0, Nat.zero_le _, rfl, Lib.hid (by simp), rfl⟩
  case round =>
    obtain ⟨k, hk, rfl, hall, rfl⟩ := hrel
    by_cases hlt : k < dl.length
    · obtain ⟨ad, rfl, hs⟩ := runes_at (Kd.C_alloc HD.out (.cells #[.slice D dl.length cd, .slice F nf cf, .bool sk, .bool db, .int .i64 most] 104)) k hlt
      have HX := Lib.hid (fun h1 => memB_take hlt hall.out h1)
      have HM := Lib.hid (List.getElem_mem hlt)
      generalize dl[k] = x at hs HX HM
      by_cases hx : r = x
      · have ht : (r == x) = true := by simpa using hx
        have HB := Lib.hid (show memB r dl = true from memB_true (hx ▸ HM.out))
        clear hx
        go_wp2
        go_ret
        exact ⟨by simp [HB.out], (Below.refl _ _).alloc (Nat.le_refl _) _⟩
      · have ht : (r == x) = false := by simpa using hx
        have HY := Lib.hid (HX.out (fun h => hx h.symm))
        clear hx
        go_wp2
        exact ⟨⟨k + 1, by omega, by go_num, HY, trivial⟩, by simp [intOf]; omega⟩
    · obtain rfl : k = dl.length := by omega
      have h := hall.out
      rw [List.take_length] at h
      have HB := Lib.hid (show memB r dl = false from memB_false h)
      clear h hall
      go_wp2
      go_ret
      exact ⟨by simp [HB.out], (Below.refl _ _).alloc (Nat.le_refl _) _⟩
set_option maxHeartbeats 1000000 in
set_option maxRecDepth 5000 in
theorem isFollower_any (D F : Option Addr) (nd cd cf : Nat) (sk db : Bool) (most r : Int) (dl : List Int) (w : World) (hD : (Kd.int .i32).C w F dl.length dl) :
    Calls Tryd.prog 74 #[splV D F nd cd dl.length cf sk db most, .int .i32 r] w fun e w' => e = .returned (.bool (memB r dl)) ∧ Below w.heap.size w w' := by
  have HD := Lib.hid hD
  have hm := hD.2.1
  clear hD
  go_enter Tryd.func74, Tryd.ntmps74
  go_wp2
  go_loopw [10] (fun i wr => ∃ k : Nat, k ≤ dl.length ∧ i = .int .i64 k ∧ Hid (r ∉ dl.take k) ∧ wr = w.alloc (.cells #[.slice D nd cd, .slice F dl.length cf, .bool sk, .bool db, .int .i64 most] 104)) (fun i _ => dl.length - (intOf i).toNat)
  case atStart => exact ⟨0, Nat.zero_le _, rfl, Lib.hid (by simp), rfl⟩
  case round =>
    obtain ⟨k, hk, rfl, hall, rfl⟩ := hrel
    by_cases hlt : k < dl.length
    · obtain ⟨ad, rfl, hs⟩ := runes_at (Kd.C_alloc HD.out (.cells #[.slice D nd cd, .slice F dl.length cf, .bool sk, .bool db, .int .i64 most] 104)) k hlt
      have HX := Lib.hid (fun h1 => memB_take hlt hall.out h1)
      have HM := Lib.hid (List.getElem_mem hlt)
      generalize dl[k] = x at hs HX HM
      by_cases hx : r = x
      · have ht : (r == x) = true := by simpa using hx
        have HB := Lib.hid (show memB r dl = true from memB_true (hx ▸ HM.out))
        clear hx
        go_wp2
        go_ret
        exact ⟨by simp [HB.out], (Below.refl _ _).alloc (Nat.le_refl _) _⟩
      · have ht : (r == x) = false := by simpa using hx
        have HY := Lib.hid (HX.out (fun h => hx h.symm))
        clear hx
        go_wp2
        exact ⟨⟨k + 1, by omega, by go_num, HY, trivial⟩, by simp [intOf]; omega⟩
    · obtain rfl : k = dl.length := by omega
      have h := hall.out
      rw [List.take_length] at h
      have HB := Lib.hid (show memB r dl = false from memB_false h)
      clear h hall
      go_wp2
      go_ret
      exact ⟨by simp [HB.out], (Below.refl _ _).alloc (Nat.le_refl _) _⟩

/-- Where a sentence ends whose end has come: behind all signs that end and follow. -/
def g2 (dl fl : List Int) (dec : Nat → Int × Nat) (n p : Nat) : Nat :=
  if h : p < n ∧ 0 < (dec p).2 then (if memB (dec p).1 dl || memB (dec p).1 fl then g2 dl fl dec n (p + (dec p).2) else p) else p
termination_by n - p
decreasing_by omega
/-- Where a sentence ends, and whether its end has come. -/
def g1 (dl fl : List Int) (most : Int) (dec : Nat → Int × Nat) (n p rc : Nat) : Nat × Bool :=
  if h : p < n ∧ 0 < (dec p).2 then
    (if !memB (dec p).1 dl && decide (((rc + 1 : Nat) : Int) < most) then g1 dl fl most dec n (p + (dec p).2) (rc + 1) else (g2 dl fl dec n (p + (dec p).2), true))
  else (p, false)
termination_by n - p
decreasing_by omega
/-- What decodes. -/
def Decodes (w : World) (ad : Addr) (n c : Nat) (dec : Nat → Int × Nat) : Prop :=
  ∀ p, p < n → 0 < (dec p).2 ∧ p + (dec p).2 ≤ n ∧ ∀ W, Below w.heap.size w W → Calls Tryd.prog 71 #[.slice (some (ad.add p)) (n - p) (c - p)] W fun e w' => e = .returned (.tuple #[.int .i32 (dec p).1, .int .i64 (dec p).2]) ∧ Below W.heap.size W w'
theorem cells5 {w : World} {g : Nat} {a b c d e : Value} {t : TypeId} (h : w.heap[g]? = some (.cells #[a, b, c, d, e] t (0, 0))) :
    w.cell? ⟨g, 0, none⟩ = some a ∧ w.cell? ⟨g, 1, none⟩ = some b ∧ w.cell? ⟨g, 2, none⟩ = some c ∧ w.cell? ⟨g, 3, none⟩ = some d ∧ w.cell? ⟨g, 4, none⟩ = some e :=
  ⟨cell_of_heap h 0, cell_of_heap h 1, cell_of_heap h 2, cell_of_heap h 3, cell_of_heap h 4⟩
theorem blk_keep {w w1 : World} {g : Nat} {o : Obj} (h : w.heap[g]? = some o) (hb : Below w.heap.size w w1) : w1.heap[g]? = some o := (hb.block g (lt_of_heap h)).trans h
def ScanRet (ad : Addr) (c : Nat) (eof : Bool) (r : Nat × Bool) (w : World) (e : Ending) (w' : World) : Prop :=
  e = .returned (.tuple (if r.2 || eof then #[.int .i64 r.1, .slice (some ad) r.1 c, .nilIface] else #[.int .i64 0, .slice none 0 0, .nilIface])) ∧ Below w.heap.size w w'

theorem mk_scan {ad : Addr} {c : Nat} {eof : Bool} {R : Nat × Bool} {E p : Nat} {w W : World} (h : R = (E, true)) (hE : E = p) (hb : Below w.heap.size w W) (nq : Nat) :
    ScanRet ad c eof R w (.returned (.tuple #[.int .i64 p, .slice (some ad) p c, .nilIface])) (W.drewN nq) := by
  subst hE h
  exact ⟨rfl, pw_below_drewN hb nq⟩
theorem mk_scan1 {ad : Addr} {c : Nat} {R : Nat × Bool} {p : Nat} {w W : World} (h : R = (p, false)) (hb : Below w.heap.size w W) (nq : Nat) :
    ScanRet ad c true R w (.returned (.tuple #[.int .i64 p, .slice (some ad) p c, .nilIface])) (W.drewN nq) := by
  subst h
  exact ⟨rfl, pw_below_drewN hb nq⟩
theorem mk_scan0 {ad : Addr} {c : Nat} {R : Nat × Bool} {p : Nat} {w W : World} (h : R = (p, false)) (hb : Below w.heap.size w W) :
    ScanRet ad c false R w (.returned (.tuple #[.int .i64 0, .slice none 0 0, .nilIface])) W := by
  subst h
  exact ⟨rfl, hb⟩
set_option maxHeartbeats 8000000 in
set_option maxRecDepth 20000 in
theorem scan_true (D F : Option Addr) (cd cf : Nat) (most : Int) (dl fl : List Int) (ad : Addr) (n c : Nat) (dec : Nat → Int × Nat) (w : World) (hD : (Kd.int .i32).C w D dl.length dl) (hF : (Kd.int .i32).C w F fl.length fl)
    (hn : 0 < n) (hnc : n ≤ c) (hc : c ≤ 9223372036854775807) (hdec : Decodes w ad n c dec) :
    Calls Tryd.prog 54 #[splV D F dl.length cd fl.length cf false false most, .slice (some ad) n c, .bool true] w (ScanRet ad c true (g1 dl fl most dec n 0 0) w) := by
  have HD := Lib.hid hD
  have HF := Lib.hid hF
  have HDEC := Lib.hid hdec
  clear hD hF hdec
  show Calls _ _ #[.agg #[.slice D dl.length cd, .slice F fl.length cf, .bool false, .bool false, .int .i64 most], .slice (some ad) n c, .bool true] w _
  obtain ⟨R, hR⟩ : ∃ R, g1 dl fl most dec n 0 0 = R := ⟨_, rfl⟩
  rw [hR]
  have HR := Lib.hid hR
  clear hR
  have hdm := HD.out.2.1
  have hfm := HF.out.2.1
  have hn0 : ((n : Int) == 0) = false := by simp; omega
  go_enter Tryd.func54, Tryd.ntmps54
  have h0 := heap_new w (.cells #[.slice D dl.length cd, .slice F fl.length cf, .bool false, .bool false, .int .i64 most] 104)
  have hbw : Below w.heap.size w (w.alloc (.cells #[.slice D dl.length cd, .slice F fl.length cf, .bool false, .bool false, .int .i64 most] 104)) := below_alloc (Below.refl _ _) _
  · skip
    go_wp2_with fail
    generalize hW0 : w.alloc (.cells #[.slice D dl.length cd, .slice F fl.length cf, .bool false, .bool false, .int .i64 most] 104) = w0 at h0 hbw ⊢
    have H0 := Lib.hid h0
    have HBW := Lib.hid hbw
    have hsz0 : w.heap.size < w0.heap.size := lt_of_heap h0
    have HW0 := Lib.hid hW0
    clear h0 hbw hW0
    go_loopw [9, 10, 11, 14] (fun st en rn pp wr => ∃ p rc : Nat, st = .int .i64 0 ∧ en = .int .i64 p ∧ rn = .int .i64 rc ∧ pp = .int .i64 p ∧ p ≤ n ∧ rc ≤ p ∧ Hid (g1 dl fl most dec n p rc = R) ∧ Hid (Below w0.heap.size w0 wr)) (fun _ _ _ pp _ => n - (intOf pp).toNat)
    case atStart => exact ⟨0, 0, rfl, rfl, rfl, rfl, Nat.zero_le _, Nat.le_refl _, HR, Lib.hid (Below.refl _ _)⟩
    case round =>
      clear HR
      obtain ⟨p, rc, rfl, rfl, rfl, rfl, hp, hrc, HR, hbel⟩ := hrel
      obtain ⟨c0, c1, c2, c3, c4⟩ := cells5 (blk_keep H0.out hbel.out)
      have hzr := hbel.out.size
      by_cases hlt : p < n
      · obtain ⟨hk0, hkn, hcall⟩ := HDEC.out p hlt
        have HG := Lib.hid (HR.out.symm.trans (show g1 dl fl most dec n p rc = _ from by rw [g1, dif_pos ⟨hlt, hk0⟩]))
        obtain ⟨r, hr⟩ : ∃ r, (dec p).1 = r := ⟨_, rfl⟩
        obtain ⟨k, hk⟩ : ∃ k, (dec p).2 = k := ⟨_, rfl⟩
        rw [hr, hk] at HG
        rw [hk] at hk0 hkn
        rw [hr, hk] at hcall
        clear hr hk
        have HC := Lib.hid (hcall wr (HBW.out.trans (hbel.out.mono (Nat.le_of_lt hsz0))))
        clear hcall
        go_wp2_with fail
        refine HC.out.mono ?_
        rintro e w1 ⟨rfl, hb1⟩
        have HL1 := Lib.hid (hbel.out.trans (hb1.mono hzr))
        clear c0 c1 c2 c3 c4 hb1
        obtain ⟨c0, c1, c2, c3, c4⟩ := cells5 (blk_keep H0.out HL1.out)
        have hqe : ((p : Int) != (p : Int)) = false := by simp
        go_wp2_with fail
        refine (isDelim_any D F cd fl.length cf false false most r dl w1 (Kd.C_below HD.out (HBW.out.trans (HL1.out.mono (Nat.le_of_lt hsz0))))).mono ?_
        rintro e w2 ⟨rfl, hb2⟩
        have HLq := Lib.hid (HL1.out.trans (hb2.mono HL1.out.size))
        clear c0 c1 c2 c3 c4 hb2
        obtain ⟨c0, c1, c2, c3, c4⟩ := cells5 (blk_keep H0.out HLq.out)
        generalize memB r dl = bm at HG
        obtain ⟨E, hE⟩ : ∃ E, g2 dl fl dec n (p + k) = E := ⟨_, rfl⟩
        rw [hE] at HG
        have HE := Lib.hid hE
        clear hE
        cases bm
        · by_cases hmo : ((rc + 1 : Nat) : Int) < most
          · have HG2 := Lib.hid (HG.out.trans (if_pos (by simp only [Bool.not_false, Bool.true_and]; exact decide_eq_true hmo)))
            have hmo' : (rc : Int) + 1 < most := by omega
            clear hmo HG
            go_wp2_with fail
            exact ⟨⟨p + k, rc + 1, rfl, by go_num, by go_num, by go_num, hkn, by omega, Lib.hid HG2.out.symm, HLq⟩, by simp [intOf]; omega⟩
          · have HG2 := Lib.hid (HG.out.trans (if_neg (by simp only [Bool.not_false, Bool.true_and]; simpa using hmo)))
            have hmo' : ¬ (rc : Int) + 1 < most := by omega
            clear hmo HG
            have hzz := HLq.out.size
            go_wp2_with fail
            go_loopw [10, 14] (fun en pp wi => ∃ p' : Nat, en = .int .i64 p' ∧ pp = .int .i64 p' ∧ p' ≤ n ∧ Hid (g2 dl fl dec n p' = E) ∧ Hid (Below w0.heap.size w0 wi)) (fun _ pp _ => n - (intOf pp).toNat)
            case atStart => exact ⟨p + k, by go_num, by go_num, hkn, HE, HLq⟩
            case round =>
              clear c0 c1 c2 c3 c4 HE
              obtain ⟨p', rfl, rfl, hp', HE, hbi⟩ := hrel
              obtain ⟨c0, c1, c2, c3, c4⟩ := cells5 (blk_keep H0.out hbi.out)
              have hzi := hbi.out.size
              by_cases hlt' : p' < n
              · obtain ⟨hk0', hkn', hcall'⟩ := HDEC.out p' hlt'
                have HG' := Lib.hid (HE.out.symm.trans (show g2 dl fl dec n p' = _ from by rw [g2, dif_pos ⟨hlt', hk0'⟩]))
                obtain ⟨r', hr'⟩ : ∃ r, (dec p').1 = r := ⟨_, rfl⟩
                obtain ⟨k', hk'⟩ : ∃ k, (dec p').2 = k := ⟨_, rfl⟩
                rw [hr', hk'] at HG'
                rw [hk'] at hk0' hkn'
                rw [hr', hk'] at hcall'
                clear hr' hk'
                have HC' := Lib.hid (hcall' wr (HBW.out.trans (hbi.out.mono (Nat.le_of_lt hsz0))))
                clear hcall'
                go_wp2_with fail
                refine HC'.out.mono ?_
                rintro e w3 ⟨rfl, hb3⟩
                have HL3 := Lib.hid (hbi.out.trans (hb3.mono hzi))
                clear c0 c1 c2 c3 c4 hb3
                obtain ⟨c0, c1, c2, c3, c4⟩ := cells5 (blk_keep H0.out HL3.out)
                have hqe' : ((p' : Int) != (p' : Int)) = false := by simp
                go_wp2_with fail
                refine (isDelim_any D F cd fl.length cf false false most r' dl w3 (Kd.C_below HD.out (HBW.out.trans (HL3.out.mono (Nat.le_of_lt hsz0))))).mono ?_
                rintro e w4 ⟨rfl, hb4⟩
                have HL4 := Lib.hid (HL3.out.trans (hb4.mono HL3.out.size))
                clear c0 c1 c2 c3 c4 hb4
                obtain ⟨c0, c1, c2, c3, c4⟩ := cells5 (blk_keep H0.out HL4.out)
                generalize memB r' dl = bm' at HG'
                cases bm'
                · go_wp2_with fail
                  refine (isFollower_any D F dl.length cd cf false false most r' fl w4 (Kd.C_below HF.out (HBW.out.trans (HL4.out.mono (Nat.le_of_lt hsz0))))).mono ?_
                  rintro e w5 ⟨rfl, hb5⟩
                  have HL5 := Lib.hid (HL4.out.trans (hb5.mono HL4.out.size))
                  clear c0 c1 c2 c3 c4 hb5
                  obtain ⟨c0, c1, c2, c3, c4⟩ := cells5 (blk_keep H0.out HL5.out)
                  generalize memB r' fl = bf' at HG'
                  cases bf'
                  · have HX := Lib.hid (HG'.out.trans (if_neg (by simp)))
                    clear HG' HE
                    have hzx := HL5.out.size
                    go_wp2_with fail
                    go_quiet (fail)
                    go_wp2_with fail
                    go_ret3
                    exact mk_scan HG2.out HX.out (HBW.out.trans (HL5.out.mono (Nat.le_of_lt hsz0))) _
                  · have HX := Lib.hid (HG'.out.trans (if_pos (by simp)))
                    clear HG' HE
                    go_wp2_with fail
                    exact ⟨⟨p' + k', by go_num, by go_num, hkn', Lib.hid HX.out.symm, HL5⟩, by simp [intOf]; omega⟩
                · have HX := Lib.hid (HG'.out.trans (if_pos (by simp)))
                  clear HG' HE
                  go_wp2_with fail
                  exact ⟨⟨p' + k', by go_num, by go_num, hkn', Lib.hid HX.out.symm, HL4⟩, by simp [intOf]; omega⟩
              · obtain rfl : p' = n := by omega
                have HX := Lib.hid (HE.out.symm.trans (show g2 dl fl dec p' p' = p' from by rw [g2, dif_neg (by omega)]))
                clear HE
                go_wp2_with fail
                go_quiet (fail)
                go_wp2_with fail
                go_ret3
                exact mk_scan HG2.out HX.out (HBW.out.trans (hbi.out.mono (Nat.le_of_lt hsz0))) _
        · have HG2 := Lib.hid (HG.out.trans (if_neg (by simp)))
          clear HG
          have hzz := HLq.out.size
          go_wp2_with fail
          go_loopw [10, 14] (fun en pp wi => ∃ p' : Nat, en = .int .i64 p' ∧ pp = .int .i64 p' ∧ p' ≤ n ∧ Hid (g2 dl fl dec n p' = E) ∧ Hid (Below w0.heap.size w0 wi)) (fun _ pp _ => n - (intOf pp).toNat)
          case atStart => exact ⟨p + k, by go_num, by go_num, hkn, HE, HLq⟩
          case round =>
            clear c0 c1 c2 c3 c4 HE
            obtain ⟨p', rfl, rfl, hp', HE, hbi⟩ := hrel
            obtain ⟨c0, c1, c2, c3, c4⟩ := cells5 (blk_keep H0.out hbi.out)
            have hzi := hbi.out.size
            by_cases hlt' : p' < n
            · obtain ⟨hk0', hkn', hcall'⟩ := HDEC.out p' hlt'
              have HG' := Lib.hid (HE.out.symm.trans (show g2 dl fl dec n p' = _ from by rw [g2, dif_pos ⟨hlt', hk0'⟩]))
              obtain ⟨r', hr'⟩ : ∃ r, (dec p').1 = r := ⟨_, rfl⟩
              obtain ⟨k', hk'⟩ : ∃ k, (dec p').2 = k := ⟨_, rfl⟩
              rw [hr', hk'] at HG'
              rw [hk'] at hk0' hkn'
              rw [hr', hk'] at hcall'
              clear hr' hk'
              have HC' := Lib.hid (hcall' wr (HBW.out.trans (hbi.out.mono (Nat.le_of_lt hsz0))))
              clear hcall'
              go_wp2_with fail
              refine HC'.out.mono ?_
              rintro e w3 ⟨rfl, hb3⟩
              have HL3 := Lib.hid (hbi.out.trans (hb3.mono hzi))
              clear c0 c1 c2 c3 c4 hb3
              obtain ⟨c0, c1, c2, c3, c4⟩ := cells5 (blk_keep H0.out HL3.out)
              have hqe' : ((p' : Int) != (p' : Int)) = false := by simp
              go_wp2_with fail
              refine (isDelim_any D F cd fl.length cf false false most r' dl w3 (Kd.C_below HD.out (HBW.out.trans (HL3.out.mono (Nat.le_of_lt hsz0))))).mono ?_
              rintro e w4 ⟨rfl, hb4⟩
              have HL4 := Lib.hid (HL3.out.trans (hb4.mono HL3.out.size))
              clear c0 c1 c2 c3 c4 hb4
              obtain ⟨c0, c1, c2, c3, c4⟩ := cells5 (blk_keep H0.out HL4.out)
              generalize memB r' dl = bm' at HG'
              cases bm'
              · go_wp2_with fail
                refine (isFollower_any D F dl.length cd cf false false most r' fl w4 (Kd.C_below HF.out (HBW.out.trans (HL4.out.mono (Nat.le_of_lt hsz0))))).mono ?_
                rintro e w5 ⟨rfl, hb5⟩
                have HL5 := Lib.hid (HL4.out.trans (hb5.mono HL4.out.size))
                clear c0 c1 c2 c3 c4 hb5
                obtain ⟨c0, c1, c2, c3, c4⟩ := cells5 (blk_keep H0.out HL5.out)
                generalize memB r' fl = bf' at HG'
                cases bf'
                · have HX := Lib.hid (HG'.out.trans (if_neg (by simp)))
                  clear HG' HE
                  have hzx := HL5.out.size
                  go_wp2_with fail
                  go_quiet (fail)
                  go_wp2_with fail
                  go_ret3
                  exact mk_scan HG2.out HX.out (HBW.out.trans (HL5.out.mono (Nat.le_of_lt hsz0))) _
                · have HX := Lib.hid (HG'.out.trans (if_pos (by simp)))
                  clear HG' HE
                  go_wp2_with fail
                  exact ⟨⟨p' + k', by go_num, by go_num, hkn', Lib.hid HX.out.symm, HL5⟩, by simp [intOf]; omega⟩
              · have HX := Lib.hid (HG'.out.trans (if_pos (by simp)))
                clear HG' HE
                go_wp2_with fail
                exact ⟨⟨p' + k', by go_num, by go_num, hkn', Lib.hid HX.out.symm, HL4⟩, by simp [intOf]; omega⟩
            · obtain rfl : p' = n := by omega
              have HX := Lib.hid (HE.out.symm.trans (show g2 dl fl dec p' p' = p' from by rw [g2, dif_neg (by omega)]))
              clear HE
              go_wp2_with fail
              go_quiet (fail)
              go_wp2_with fail
              go_ret3
              exact mk_scan HG2.out HX.out (HBW.out.trans (hbi.out.mono (Nat.le_of_lt hsz0))) _
      · obtain rfl : p = n := by omega
        have HG := Lib.hid (HR.out.symm.trans (show g1 dl fl most dec p p rc = (p, false) from by rw [g1, dif_neg (by omega)]))
        have hzr' := HBW.out.trans (hbel.out.mono (Nat.le_of_lt hsz0))
        have HZ := Lib.hid hzr'
        clear hzr'
        go_wp2_with fail
        go_quiet (fail)
        go_wp2_with fail
        go_ret3
        exact mk_scan1 HG.out HZ.out _
end Go.Proofs.YtaniafohcaiedaaDoor.Sn
