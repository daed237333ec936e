/-
  impl.Unknowns at rows of which one has another length: the error.
-/
import Derived.Test.YteoljiclmhmbnaaDoorUkE
import Derived.Test.YteoljiclmhmbnaaDoorUkA
import Derived.Deep.Slices
import Derived.ChangeArms
set_option linter.unusedVariables false
set_option linter.unusedSimpArgs false
namespace Go.Proofs.YteoljiclmhmbnaaDoor.Tx
open Go Go.RowKit Go.Proofs.YteoljiclmhmbnaaDoor.K Go.Proofs.YteoljiclmhmbnaaDoorW.PrintWords Go.Proofs.YteoljiclmhmbnaaDoor.Mi Go.Maps

def BadRet (w : World) (e : Ending) (w' : World) : Prop := e = .returned (.tuple #[.slice none 0 0, .slice none 0 0, .int .i64 1]) ∧ Below w.heap.size w w'
set_option maxHeartbeats 4000000 in
set_option maxRecDepth 5000 in
theorem unknowns_bad (xs : List (List ByteArray)) (hlen : xs.length ≤ 100000) (hrb : ∀ r ∈ xs, r.length ≤ 1000) (hx : ∃ r ∈ xs, r.length ≠ 6) (A B : Option Addr) (c cc nn : Nat) (w : World)
    (hC : kRow.C w A xs.length xs) :
    Calls Tryd.prog 31 #[.slice A xs.length c, .agg infoCells, .slice B nn cc] w (BadRet w) := by
  have hmf : ∀ (fn : Fn) (first cap : Array Value) (w : World), (Instr.makeFunc fn first cap).run Tryd.prog w = .ok (.func fn first cap) w := fun _ _ _ _ => rfl
  have HC := Lib.hid hC
  have HX := Lib.hid hx
  have HRB := Lib.hid hrb
  obtain ⟨N, hN⟩ : ∃ N, xs.length = N := ⟨_, rfl⟩
  have HN := Lib.hid hN
  rw [hN] at hlen HC ⊢
  clear hC hx hrb hN
  obtain ⟨b, hb⟩ : ∃ b, b = w.heap.size := ⟨_, rfl⟩
  obtain ⟨w1, hw1⟩ : ∃ w1, w1 = (((w.alloc (.cells #[.int .i64 6, .int .i64 0, .int .i64 1, .int .i64 2, .int .i64 3, .int .i64 4, .int .i64 5] 66)).alloc (.cells #[.slice none 0 0] 55)).alloc (.cells #[.slice none 0 0] 62)).alloc (.cells #[.int .i64 0] 3) := ⟨_, rfl⟩
  have hall : (w1.heap[b]? = some (.cells #[.int .i64 6, .int .i64 0, .int .i64 1, .int .i64 2, .int .i64 3, .int .i64 4, .int .i64 5] 66 (0, 0))) ∧ Res3 (b + 1) (.slice none 0 0) (.slice none 0 0) (.int .i64 0) w1 := by
    rw [hw1, hb]
    have e : (((w.alloc (.cells #[.int .i64 6, .int .i64 0, .int .i64 1, .int .i64 2, .int .i64 3, .int .i64 4, .int .i64 5] 66)).alloc (.cells #[.slice none 0 0] 55)).alloc (.cells #[.slice none 0 0] 62)).alloc (.cells #[.int .i64 0] 3) = allocs w [.cells #[.int .i64 6, .int .i64 0, .int .i64 1, .int .i64 2, .int .i64 3, .int .i64 4, .int .i64 5] 66, .cells #[.slice none 0 0] 55, .cells #[.slice none 0 0] 62, .cells #[.int .i64 0] 3] := rfl
    rw [e]
    exact ⟨allocs_new w _ 0 _ rfl, allocs_new w _ 1 _ rfl, allocs_new w _ 2 _ rfl, allocs_new w _ 3 _ rfl⟩
  have hb1 : Below w.heap.size w w1 := by rw [hw1]; exact ((((Below.refl _ _).alloc (Nat.le_refl _) _).alloc (by simp) _).alloc (by simp; omega) _).alloc (by simp; omega) _
  have hs1 : w1.heap.size = b + 4 := by rw [hw1, hb]; simp
  obtain ⟨hbox, hr1⟩ := hall
  have q0 : w1.cell? ⟨b, 0, none⟩ = some (.int .i64 6) := by rw [cell_of_heap hbox]; rfl
  have q1 : w1.cell? ⟨b, 1, none⟩ = some (.int .i64 0) := by rw [cell_of_heap hbox]; rfl
  have q2 : w1.cell? ⟨b, 2, none⟩ = some (.int .i64 1) := by rw [cell_of_heap hbox]; rfl
  have q3 : w1.cell? ⟨b, 3, none⟩ = some (.int .i64 2) := by rw [cell_of_heap hbox]; rfl
  have q4 : w1.cell? ⟨b, 4, none⟩ = some (.int .i64 3) := by rw [cell_of_heap hbox]; rfl
  have q5 : w1.cell? ⟨b, 5, none⟩ = some (.int .i64 4) := by rw [cell_of_heap hbox]; rfl
  have q6 : w1.cell? ⟨b, 6, none⟩ = some (.int .i64 5) := by rw [cell_of_heap hbox]; rfl
  have hrl : xs.length = N := HN.out
  have HRE := Lib.hid (fun (W : World) (h : Hid (Below w1.heap.size w1 W)) => show Calls Tryd.prog 54 #[.slice A N c] W (RetRow kRow tRc xs W) from by
    have h1 := recs_any A c xs W (by rw [hrl]; exact Kd.C_below HC.out (hb1.trans (h.out.mono hb1.size))) (fun r hr => by have := HRB.out r hr; omega) (by rw [hrl]; omega)
    rw [hrl] at h1
    exact h1)
  have HZZ := Lib.hid (show ∀ (W : World) (pi : Nat) (A6 : Option Addr) (c6 : Nat), Hid (kRow.C W A6 N xs) → Hid (W.heap[pi]? = some (.cells infoCells tInfo (0, 0))) →
      Calls Tryd.prog 53 #[.slice A6 N c6, ptr pi 0, .slice B nn cc] W (fun e w' => (∃ b : Nat, e = .returned (.tuple #[.pointer none, .iface 183 (.pointer (some ⟨b, 0, none⟩))])) ∧ Below W.heap.size W w') from fun W pi A6 c6 hR hpi => by
    refine zzUnk_of _ _ _ W .nilIface .nilIface ?_ (fun e w' h => by obtain ⟨⟨b, he⟩, _⟩ := h; exact ⟨_, _, he⟩)
    have h1 := parseU_bad A6 B c6 cc pi nn (0, 0) xs W (by rw [HN.out]; exact hR.out) hpi.out HX.out
    rw [HN.out] at h1
    exact h1)
  have H1 : Hid (Below w1.heap.size w1 w1) := Lib.hid (Below.refl _ _)
  have HB1 := Lib.hid hb1
  have HS1 := Lib.hid hs1
  have HR1 := Lib.hid hr1
  have HBE := Lib.hid hb
  clear hr1 hbox hs1 hb1 HC
  unfold infoCells
  go_enter_defers Tryd.func31, Tryd.ntmps31
  go_upto_region 2 with fail
  rw [← hb, ← hw1]
  clear hw1 hb
  go_region_held3 (fun w' => w'.cell? ⟨b, 0, none⟩ = some (.int .i64 6) ∧ w'.cell? ⟨b, 1, none⟩ = some (.int .i64 0) ∧ w'.cell? ⟨b, 2, none⟩ = some (.int .i64 1) ∧ w'.cell? ⟨b, 3, none⟩ = some (.int .i64 2) ∧ w'.cell? ⟨b, 4, none⟩ = some (.int .i64 3) ∧ w'.cell? ⟨b, 5, none⟩ = some (.int .i64 4) ∧ w'.cell? ⟨b, 6, none⟩ = some (.int .i64 5))
    (first
      | with_reducible assumption
      | (refine keep7 q0 q1 q2 q3 q4 q5 q6 ?_; (first
        | with_reducible assumption
        | (repeat' (first | with_reducible assumption | refine hidU_dr ?_ | refine hidU_al ?_ _)))))
    (first
      | (go_at_call 54; go_split_ands; (with_reducible refine (HRE.out _ (hidU_dr H1)).mono ?_); rintro e w6 ⟨v6, rfl, hR6, hB6⟩; obtain ⟨A6, c6, hv6, _, hC6⟩ := Kd.R_reads hR6; rw [hrl] at hv6 hC6; subst hv6; have HR6 := Lib.hid hC6; have HB6 := hidU_tr (hidU_dr H1) hB6; clear hR6 hB6 hC6)
      | (go_at_call 55; go_split_ands; (refine (unkInfo_any w6).mono ?_); rintro e w7 ⟨pi, rfl, hP7, hz7, hB7⟩; have HP7 := Lib.hid hP7; have HR7 := Lib.hid (Kd.C_below HR6.out hB7); have HB7 := hidU_tr HB6 hB7; clear hP7 hz7 hB7)
      | (go_at_call 53; go_split_ands; (refine (HZZ.out w7 pi A6 c6 HR7 HP7).mono ?_); rintro e w8 ⟨⟨be, rfl⟩, hB8⟩; have HB8 := hidU_tr HB7 hB8; clear hB8))
  clear q0 q1 q2 q3 q4 q5 q6 HRE HZZ HR6 HB6 HP7 HR7 HB7
  have hr8 := HR1.out.keep (fun k hk1 hk2 => HB8.out.block k (by have := HS1.out; omega))
  have HL8 := Lib.hid (HB1.out.trans (HB8.out.mono HB1.out.size))
  obtain ⟨r1, hr1⟩ : ∃ r, r = b + 1 := ⟨_, rfl⟩
  obtain ⟨r2, hr2⟩ : ∃ r, r = r1 + 1 := ⟨_, rfl⟩
  obtain ⟨r3, hr3⟩ : ∃ r, r = r2 + 1 := ⟨_, rfl⟩
  rw [← hr1] at hr8 ⊢
  rw [← hr2]
  rw [← hr3]
  have e2 : r1 + 1 = r2 := hr2.symm
  have e3 : r1 + 2 = r3 := by omega
  obtain ⟨hz1, hz2, hz3⟩ : w8.heap[r1]? = some (.cells #[.slice none 0 0] 55 (0, 0)) ∧ w8.heap[r2]? = some (.cells #[.slice none 0 0] 62 (0, 0)) ∧ w8.heap[r3]? = some (.cells #[.int .i64 0] 3 (0, 0)) := by rw [← e2, ← e3]; exact hr8
  have n12 : r1 ≠ r2 := by omega
  have n13 : r1 ≠ r3 := by omega
  have n23 : r2 ≠ r3 := by omega
  have n21 := n12.symm
  have n31 := n13.symm
  have n32 := n23.symm
  have HBR := Lib.hid (show w.heap.size ≤ r1 ∧ w.heap.size ≤ r2 ∧ w.heap.size ≤ r3 from by have := HBE.out; omega)
  have z1 := cell_of_heap hz1 0
  have z2 := cell_of_heap hz2 0
  have z3 := cell_of_heap hz3 0
  have y1 := frozen_of_heap hz1 0
  have y2 := frozen_of_heap hz2 0
  have y3 := frozen_of_heap hz3 0
  simp only [List.getElem?_toArray, List.getElem?_cons_zero] at z1 z2 z3
  have HZ := Lib.hid (And.intro hz1 (And.intro hz2 hz3))
  clear hr8 hr1 hr2 hr3 e2 e3 HR1 HB8 HS1 HBE HB1 H1 hz1 hz2 hz3
  go_wp2_with fail
  clear z1 z2 z3 y1 y2 y3
  obtain ⟨z1, z2, z3⟩ := HZ.out
  obtain ⟨l1, l2, l3⟩ := HBR.out
  have z21 := (heap_set_ne n12.symm 0 (.slice none 0 0)).trans z2
  have z31 := (heap_set_ne n13.symm 0 (.slice none 0 0)).trans z3
  have z32 := (heap_set_ne n23.symm 0 (.slice none 0 0)).trans z31
  have hb3 := ((HL8.out.setCell (p := ⟨r1, 0, none⟩) l1 (.slice none 0 0)).setCell (p := ⟨r2, 0, none⟩) l2 (.slice none 0 0)).setCell (p := ⟨r3, 0, none⟩) l3 (.int .i64 1)
  have d1 : (((w8.setCell ⟨r1, 0, none⟩ (.slice none 0 0)).setCell ⟨r2, 0, none⟩ (.slice none 0 0)).setCell ⟨r3, 0, none⟩ (.int .i64 1)).cell? ⟨r1, 0, none⟩ = some (.slice none 0 0) := by
    rw [cell_far n13, cell_far n12, cell_of_heap (heap_set z1 0 _)]; rfl
  have d2 : (((w8.setCell ⟨r1, 0, none⟩ (.slice none 0 0)).setCell ⟨r2, 0, none⟩ (.slice none 0 0)).setCell ⟨r3, 0, none⟩ (.int .i64 1)).cell? ⟨r2, 0, none⟩ = some (.slice none 0 0) := by
    rw [cell_far n23, cell_of_heap (heap_set z21 0 _)]; rfl
  have d3 : (((w8.setCell ⟨r1, 0, none⟩ (.slice none 0 0)).setCell ⟨r2, 0, none⟩ (.slice none 0 0)).setCell ⟨r3, 0, none⟩ (.int .i64 1)).cell? ⟨r3, 0, none⟩ = some (.int .i64 1) := by
    rw [cell_of_heap (heap_set z32 0 _)]; rfl
  clear z1 z2 z3 z21 z31 z32 HZ HL8
  revert d1 d2 d3 hb3
  generalize ((w8.setCell ⟨r1, 0, none⟩ (.slice none 0 0)).setCell ⟨r2, 0, none⟩ (.slice none 0 0)).setCell ⟨r3, 0, none⟩ (.int .i64 1) = w11
  intro hb3 d1 d2 d3
  have HB3 := Lib.hid hb3
  clear hb3
  refine leaves_cons (f := 52) (args := #[.pointer (some ⟨r1, 0, none⟩), .pointer (some ⟨r2, 0, none⟩), .pointer (some ⟨r3, 0, none⟩)]) (by simp) (by simp [go_sem]) ?_
  refine (recoverU ⟨r1, 0, none⟩ ⟨r2, 0, none⟩ ⟨r3, 0, none⟩ _).mono ?_
  rintro e u' w'' ⟨rfl, rfl, rfl⟩
  simp [Leaves, settle, results, Tryd.results31, go_sem, d1, d2, d3]
  exact ⟨rfl, HB3.out⟩
end Go.Proofs.YteoljiclmhmbnaaDoor.Tx

/-
  The walk of laws.FnUnknownsColumns.
-/
set_option linter.unusedVariables false
set_option linter.unusedSimpArgs false
namespace Go.Proofs.YteoljiclmhmbnaaDoor.Tx
open Go.RowKit Go.Proofs.YteoljiclmhmbnaaDoorW.PrintWords Go.Proofs.YteoljiclmhmbnaaDoor.K

theorem rowS_info : (Tryd.prog.info? 29).map (fun i => (i.zero, i.size, i.bytes)) = some (some (.slice none 0 0), kRow.sz, 24) := by
  show _ = some (some (Value.slice none 0 0), 1, 24)
  kernel_rfl
set_option maxHeartbeats 4000000 in
set_option maxRecDepth 5000 in
theorem cols_walk (A B : Option Addr) (c d : Nat) (us : List Un) (cs : List Cls) (at_ : Int) (more : Bool) (w : World) (hC : kUn.C w A us.length us) (hc : us.length ≤ c) (hD : kCls.C w B cs.length cs) :
    Calls Tryd.prog 8 #[.slice A us.length c, .slice B cs.length d, .int .i64 at_, .bool more] w (RetT w) := by
  have hm := hC.2.1
  have HC := Lib.hid hC
  have HD := Lib.hid hD
  clear hC hD
  go_enter Tryd.func8, Tryd.ntmps8
  go_wp2_with fail
  refine (zzFits1_any A c us w HC.out).mono ?_
  rintro e w1 ⟨b1, rfl, hb1, hl1⟩
  have HB1 := Lib.hid hb1
  have HL1 := Lib.hid hl1
  have hz1 := hl1.size
  clear hb1 hl1
  cases b1
  · go_wp2
    go_ret
    exact ⟨by simp, HL1.out⟩
  go_wp2_with fail
  refine (zzFits4_any B d cs w1 (Kd.C_below HD.out HL1.out)).mono ?_
  rintro e w2 ⟨b2, rfl, hb2, hl2⟩
  have HB2 := Lib.hid hb2
  have HL2 := Lib.hid (HL1.out.trans (hl2.mono hz1))
  have hz2 := HL2.out.size
  clear hb2 hl2 HL1 hz1
  cases b2
  · go_wp2
    go_ret
    exact ⟨by simp, HL2.out⟩
  obtain ⟨hf1, hf2⟩ := HB2.out (by first | trivial | rfl)
  have HF1 := Lib.hid (HB1.out (by first | trivial | rfl)).2
  have HF2 := Lib.hid hf2
  clear hf2 HB1 HB2
  go_wp2_with fail
  refine (names_any B d cs w2 (Kd.C_below HD.out HL2.out) HF2.out hf1).mono ?_
  rintro e w3 ⟨b3, rfl, hb3, hl3⟩
  have HB3 := Lib.hid hb3
  have HL3 := Lib.hid (HL2.out.trans (hl3.mono hz2))
  have hz3 := HL3.out.size
  clear hb3 hl3 HL2 hz2
  cases b3
  · go_wp2_with fail
    refine (guesses_any w3).mono ?_
    rintro e w4 ⟨rfl, hl4⟩
    have HL4 := Lib.hid (HL3.out.trans (hl4.mono hz3))
    clear hl4
    go_wp2
    go_ret
    exact ⟨by simp, HL4.out⟩
  have HN := Lib.hid (HB3.out (by first | trivial | rfl))
  go_wp2_with fail
  refine (plainUnknown_any A B c d us cs.length w3 (Kd.C_below HC.out HL3.out) HF1.out).mono ?_
  rintro e w4 ⟨b4, rfl, hb4, hl4⟩
  have HB4 := Lib.hid hb4
  have HL4 := Lib.hid (HL3.out.trans (hl4.mono hz3))
  have hz4 := HL4.out.size
  clear hb4 hl4 HL3 hz3
  cases b4
  · go_wp2_with fail
    refine (guesses_any w4).mono ?_
    rintro e w5 ⟨rfl, hl5⟩
    have HL5 := Lib.hid (HL4.out.trans (hl5.mono hz4))
    clear hl5
    go_wp2
    go_ret
    exact ⟨by simp, HL5.out⟩
  have HP := Lib.hid (HB4.out (by first | trivial | rfl))
  obtain ⟨_, hp1, hp2⟩ := HP.out
  obtain ⟨hn1, hn2⟩ := HN.out.ln
  have HOK := Lib.hid (okU_of HP.out)
  have HTL : Hid ((cs.map (·.1)).length = cs.length) := Lib.hid (by simp)
  clear HB3 HB4
  by_cases ha0 : at_ < 0
  · go_wp2_with fail
    refine (guesses_any w4).mono ?_
    rintro e w5 ⟨rfl, hl5⟩
    have HL5 := Lib.hid (HL4.out.trans (hl5.mono hz4))
    clear hl5
    go_wp2
    go_ret
    exact ⟨by simp, HL5.out⟩
  by_cases ha1 : (us.length : Int) ≤ at_
  · go_wp2_with fail
    refine (guesses_any w4).mono ?_
    rintro e w5 ⟨rfl, hl5⟩
    have HL5 := Lib.hid (HL4.out.trans (hl5.mono hz4))
    clear hl5
    go_wp2
    go_ret
    exact ⟨by simp, HL5.out⟩
  obtain ⟨a, rfl⟩ : ∃ a : Nat, at_ = (a : Int) := ⟨at_.toNat, by omega⟩
  have hal : a < us.length := by omega
  have hal' : ¬ us.length ≤ a := by omega
  have hal2 : decide ((a : Int) < 0) = false := decide_eq_false ha0
  have HAL := Lib.hid hal
  clear hal
  go_wp2
  go_loopw [9, 46] (fun v i wr => ∃ (k : Nat) (L : List (List ByteArray)), k ≤ us.length ∧ i = .int .i64 k ∧ Hid (kRow.R 29 wr w4.heap.size (fun _ => True) v L) ∧ Hid (L.length = k ∧ (∀ r ∈ L, r.length ≤ 1000) ∧ (a < k → ∃ r ∈ L, r.length ≠ 6)) ∧ Hid (Below w4.heap.size w4 wr)) (fun _ i _ => us.length - (intOf i).toNat)
  case atStart => exact ⟨0, [], Nat.zero_le _, rfl, Lib.hid (Kd.R_nil _ _ _ _ _), Lib.hid ⟨rfl, by simp, by omega⟩, Lib.hid (Below.refl _ _)⟩
  case round =>
    obtain ⟨k, L, hk, rfl, hR, HLL, hbel⟩ := hrel
    have hszr := hbel.out.size
    by_cases hlt : k < us.length
    · have HLR := Lib.hid (HL4.out.trans (hbel.out.mono hz4))
      obtain ⟨ad, A1, c1, rfl, s0, s1, s2, s3, s4, hC1, _⟩ := uns_at (Kd.C_below HC.out HLR.out) k hlt
      have HO1 := Lib.hid (HOK.out _ (List.getElem_mem hlt))
      have HVB := Lib.hid (fun q e => ((own_lt (Kd.R_own hR.out).choose_spec q e) : q < wr.heap.size))
      generalize us[k] = u at *
      have HC1 := Lib.hid hC1
      clear hC1
      have HUR := Lib.hid (fun (W : World) (hW : Below wr.heap.size wr W) => unkRecord_any cs u HO1.out B A1 d c1 W (Kd.C_below HD.out (HLR.out.trans (hW.mono HLR.out.size))) (Kd.C_below HC1.out hW))
      have HR6 : Hid ((rowU (cs.map (·.1)) u).length = 6) := Lib.hid (row_len HO1.out)
      generalize rowU (cs.map (·.1)) u = row at HUR HR6
      obtain ⟨ua, l, r, s, ys⟩ := u
      go_wp2_with fail
      refine (HUR.out _ ((Below.refl _ _).alloc (Nat.le_refl _) _)).mono ?_
      rintro e w5 ⟨v5, rfl, hR5, hB5⟩
      obtain ⟨A5, c5, hv5, h65, _⟩ := Kd.R_reads hR5
      rw [HR6.out] at hv5 h65
      subst hv5
      have HR5 := Lib.hid hR5
      have HL5 := Lib.hid ((hbel.out.alloc hszr _).trans (hB5.mono (by rw [size_alloc]; omega)))
      have HRA := Lib.hid (Kd.R_below (Kd.R_alloc hR.out _) hB5)
      have hz5 := HL5.out.size
      have hz6 : wr.heap.size ≤ w5.heap.size := by have := hB5.size; rw [size_alloc] at this; omega
      have HL24 : Hid ((L.length + 1) * 24 ≤ 140737488355328) := Lib.hid (by rw [HLL.out.1]; omega)
      have hz7 : wr.heap.size + 1 ≤ w5.heap.size := by have := hB5.size; rw [size_alloc] at this; exact this
      have HB5 : Hid (Below wr.heap.size wr w5) := Lib.hid (((Below.refl _ _).alloc (Nat.le_refl _) _).trans (hB5.mono (by rw [size_alloc]; omega)))
      clear hR5 hB5 HUR s0 s1 s2 s3 s4
      by_cases hka : k = a
      · have hq : ((k : Int) == (a : Int)) = true := by rw [beq_iff_eq]; omega
        have HKA := Lib.hid hka
        clear hka
        cases more
        · have HR8 : Hid (Kd.string.R 9 w5 (wr.alloc (.cells #[.int .i64 ua, .int .i64 l, .int .i64 r, .int .i64 s, .slice A1 ys.length c1] 60)).heap.size (fun _ => True) (.slice A5 5 c5) (row.take 5)) := Lib.hid (by
            have h0 := Kd.own_of_R HR5.out
            rw [HR6.out] at h0
            have h := own_take (m := 5) h0 (by decide)
            refine Kd.R_of_own ?_ (fun _ _ => trivial)
            rw [List.length_take, HR6.out]
            show w5.ownsRow _ _ 1 _ 5 ((row.take 5).map Value.string)
            rw [List.map_take]
            exact h)
          go_wp2_with ((at_builtin; refine kapp (w0 := w4) kRow w4.heap.size rfl _ _ 58 29 (.slice none 0 0) 24 rfl Tryd.underlying58 rowS_info rfl (by decide) (by decide) _ L (row.take 5) [.slice A5 5 c5] (fun _ => True) (fun q => wr.heap.size ≤ q) w5.heap.size rfl rfl ?hg ⟨_, rfl, ?hM⟩ ?hokp (fun _ _ => trivial) (Kd.R_alloc HRA.out _) (HL5.out.alloc HL5.out.size _) (by rw [size_alloc]; omega) HL24.out ?_))
          case hg => intro q u hq; rw [cell_of_heap (heap_new _ _)]; simpa using hq
          case hM => exact Kd.R_lower (Kd.R_mono (Kd.R_bound (Kd.R_alloc HR8.out _)) (fun _ hk => by have := hk.2.1; rw [size_alloc] at this; omega)) (by rw [size_alloc]; omega)
          case hokp => intro q hq; exact ⟨trivial, fun e => by have := HVB.out q e.symm; omega⟩
          intro v6 w6 hR6 hB6 hg6 hat6
          have HR7 := Lib.hid hR6
          have HB7 := Lib.hid hB6
          clear hR6 hB6 hg6 hat6
          have HLN : Hid ((L ++ [row.take 5]).length = k + 1 ∧ (∀ r ∈ L ++ [row.take 5], r.length ≤ 1000) ∧ (a < k + 1 → ∃ r ∈ L ++ [row.take 5], r.length ≠ 6)) := Lib.hid (by
            obtain ⟨g1, g2, g3⟩ := HLL.out
            have h6 := HR6.out
            refine ⟨by simp [g1], fun r hr => ?_, fun hak => ?_⟩
            · rcases List.mem_append.1 hr with h | h
              · exact g2 r h
              · rw [List.mem_singleton.1 h]
                simp only [List.length_append, List.length_take, List.length_cons, List.length_nil]
                omega
            · exact ⟨_, List.mem_append_right _ (List.mem_singleton.2 rfl), by simp only [List.length_append, List.length_take, List.length_cons, List.length_nil]; omega⟩)
          go_wp2
          exact ⟨⟨k + 1, _, by omega, by go_num, HR7, HLN, HB7⟩, by simp [intOf]; omega⟩
        · have HZ5 : Hid (Kd.string.R 9 w5 (wr.heap.size + 1) (fun _ => True) (.slice A5 6 c5) row) := Lib.hid (by have h := HR5.out; rw [size_alloc] at h; exact h)
          go_wp2_with ((at_builtin; refine kapp (w0 := w5) Kd.string (wr.heap.size + 1) rfl _ _ 29 9 (.string ⟨#[]⟩) 16 rfl Tryd.underlying29 (by kernel_rfl) rfl (by decide) (by decide) _ row ⟨#[121]⟩ [.string ⟨#[121]⟩] (fun _ => True) (fun _ => False) w5.heap.size rfl rfl ?hg rfl (fun _ h => h.elim) (fun _ _ => trivial) (Kd.R_alloc HZ5.out _) ((Below.refl _ _).alloc hz7 _) (by rw [size_alloc]; omega) (by rw [HR6.out]; decide) ?_))
          case hg => intro q u hq; rw [cell_of_heap (heap_new _ _)]; simpa using hq
          intro v8 w8 hR8 hB8 hg8 hat8
          obtain ⟨A8, c8, hv8, h78, _⟩ := Kd.R_reads hR8
          rw [List.length_append, HR6.out] at hv8
          subst hv8
          have HR8b := Lib.hid hR8
          have HB8 : Hid (Below wr.heap.size wr w8) := Lib.hid (HB5.out.trans (hB8.mono (by omega)))
          have HL8 : Hid (Below w4.heap.size w4 w8) := Lib.hid (hbel.out.trans (HB8.out.mono hszr))
          have HRA8 := Lib.hid (Kd.R_below hR.out HB8.out)
          have hz8 := HL8.out.size
          have hz9 := HB8.out.size
          clear hR8 hB8 hg8 hat8
          go_wp2_with ((at_builtin; refine kapp (w0 := w4) kRow w4.heap.size rfl _ _ 58 29 (.slice none 0 0) 24 rfl Tryd.underlying58 rowS_info rfl (by decide) (by decide) _ L (row ++ [(⟨#[121]⟩ : ByteArray)]) [.slice A8 7 c8] (fun _ => True) (fun q => wr.heap.size ≤ q) w8.heap.size rfl rfl ?hg ⟨_, rfl, ?hM⟩ ?hokp (fun _ _ => trivial) (Kd.R_alloc HRA8.out _) (HL8.out.alloc HL8.out.size _) (by rw [size_alloc]; omega) HL24.out ?_))
          case hg => intro q u hq; rw [cell_of_heap (heap_new _ _)]; simpa using hq
          case hM => exact Kd.R_lower (Kd.R_mono (Kd.R_bound (Kd.R_alloc HR8b.out _)) (fun _ hk => by have := hk.2.1; omega)) (by omega)
          case hokp => intro q hq; exact ⟨trivial, fun e => by have := HVB.out q e.symm; omega⟩
          intro v6 w6 hR6 hB6 hg6 hat6
          have HR7 := Lib.hid hR6
          have HB7 := Lib.hid hB6
          clear hR6 hB6 hg6 hat6
          have HLN : Hid ((L ++ [row ++ [(⟨#[121]⟩ : ByteArray)]]).length = k + 1 ∧ (∀ r ∈ L ++ [row ++ [(⟨#[121]⟩ : ByteArray)]], r.length ≤ 1000) ∧ (a < k + 1 → ∃ r ∈ L ++ [row ++ [(⟨#[121]⟩ : ByteArray)]], r.length ≠ 6)) := Lib.hid (by
            obtain ⟨g1, g2, g3⟩ := HLL.out
            have h6 := HR6.out
            refine ⟨by simp [g1], fun r hr => ?_, fun hak => ?_⟩
            · rcases List.mem_append.1 hr with h | h
              · exact g2 r h
              · rw [List.mem_singleton.1 h]
                simp only [List.length_append, List.length_take, List.length_cons, List.length_nil]
                omega
            · exact ⟨_, List.mem_append_right _ (List.mem_singleton.2 rfl), by simp only [List.length_append, List.length_take, List.length_cons, List.length_nil]; omega⟩)
          go_wp2
          exact ⟨⟨k + 1, _, by omega, by go_num, HR7, HLN, HB7⟩, by simp [intOf]; omega⟩
      · have hq : ((k : Int) == (a : Int)) = false := by rw [beq_eq_false_iff_ne]; omega
        have HKA := Lib.hid hka
        clear hka
        go_wp2_with ((at_builtin; refine kapp (w0 := w4) kRow w4.heap.size rfl _ _ 58 29 (.slice none 0 0) 24 rfl Tryd.underlying58 rowS_info rfl (by decide) (by decide) _ L (row) [.slice A5 6 c5] (fun _ => True) (fun q => wr.heap.size ≤ q) w5.heap.size rfl rfl ?hg ⟨_, rfl, ?hM⟩ ?hokp (fun _ _ => trivial) (Kd.R_alloc HRA.out _) (HL5.out.alloc HL5.out.size _) (by rw [size_alloc]; omega) HL24.out ?_))
        case hg => intro q u hq; rw [cell_of_heap (heap_new _ _)]; simpa using hq
        case hM => exact Kd.R_lower (Kd.R_mono (Kd.R_bound (Kd.R_alloc HR5.out _)) (fun _ hk => by have := hk.2.1; rw [size_alloc] at this; omega)) (by rw [size_alloc]; omega)
        case hokp => intro q hq; exact ⟨trivial, fun e => by have := HVB.out q e.symm; omega⟩
        intro v6 w6 hR6 hB6 hg6 hat6
        have HR7 := Lib.hid hR6
        have HB7 := Lib.hid hB6
        clear hR6 hB6 hg6 hat6
        have HLN : Hid ((L ++ [row]).length = k + 1 ∧ (∀ r ∈ L ++ [row], r.length ≤ 1000) ∧ (a < k + 1 → ∃ r ∈ L ++ [row], r.length ≠ 6)) := Lib.hid (by
          obtain ⟨g1, g2, g3⟩ := HLL.out
          have h6 := HR6.out
          refine ⟨by simp [g1], fun r hr => ?_, fun hak => ?_⟩
          · rcases List.mem_append.1 hr with h | h
            · exact g2 r h
            · rw [List.mem_singleton.1 h]
              omega
          · obtain ⟨r, h1, h2⟩ := g3 (by have := HKA.out; omega)
            exact ⟨r, List.mem_append_left _ h1, h2⟩)
        go_wp2
        exact ⟨⟨k + 1, _, by omega, by go_num, HR7, HLN, HB7⟩, by simp [intOf]; omega⟩
    · obtain rfl : k = us.length := by omega
      obtain ⟨hlk, hl3, hl4⟩ := HLL.out
      have HB4 := Lib.hid (hl4 HAL.out)
      have HB5 := Lib.hid hl3
      obtain ⟨A5, c5, rfl, _, hC5⟩ := Kd.R_reads hR.out
      rw [hlk] at hC5 ⊢
      have HLK := Lib.hid hlk
      have HC5 := Lib.hid hC5
      have HLR := Lib.hid (HL4.out.trans (hbel.out.mono hz4))
      have hzR := HLR.out.size
      clear hlk hl3 hl4 hC5 hR hbel
      go_wp2_with fail
      refine (lawInfo_any wr).mono ?_
      rintro e w5 ⟨rfl, hb5⟩
      have HL5 := Lib.hid (HLR.out.trans (hb5.mono hzR))
      have HC6 := Lib.hid (Kd.C_below HC5.out hb5)
      have hz5 := HL5.out.size
      clear hb5 HC5
      go_wp2_with fail
      refine (classNames_any B d cs w5 (Kd.C_below HD.out HL5.out) (by omega)).mono ?_
      rintro e w6 ⟨v6, rfl, hv6, hb6⟩
      obtain ⟨A6, c6, rfl, hC6⟩ := tCls_strs hv6
      have HC7 := Lib.hid (Kd.C_below HC6.out hb6)
      have HL6 := Lib.hid (HL5.out.trans (hb6.mono hz5))
      have hz6 := HL6.out.size
      clear hv6 hb6 HC6 hC6
      have HUN := Lib.hid (unknowns_bad L (by rw [HLK.out]; omega) HB5.out HB4.out A5 A6 c5 c6 cs.length w6 (by rw [HLK.out]; exact HC7.out))
      rw [HLK.out] at HUN
      go_wp2_with fail
      refine HUN.out.mono ?_
      rintro e w7 ⟨rfl, hb7⟩
      have HL7 := Lib.hid (HL6.out.trans (hb7.mono hz6))
      have hz7 := HL7.out.size
      clear hb7 HUN HC7
      go_wp2_with fail
      refine (guesses_any w7).mono ?_
      rintro e w8 ⟨rfl, hl8⟩
      have HL8 := Lib.hid (HL7.out.trans (hl8.mono hz7))
      clear hl8
      go_wp2
      go_ret
      exact ⟨by simp, HL8.out⟩
end Go.Proofs.YteoljiclmhmbnaaDoor.Tx

/-
  An argument that can be read as data is a value of its kind: kind by kind.
-/
set_option linter.unusedVariables false
set_option linter.unusedSimpArgs false
namespace Go.Proofs.YteoljiclmhmbnaaDoor.K
open Go.RowKit Go.Proofs.YteoljiclmhmbnaaDoorW.PrintWords

/-- What can be read at type e is of kind d, and V holds of it. -/
def Opens {α : Type} (P : Program) (w : World) (e : TypeId) (d : Kd α) (V : α → Prop) : Prop :=
  ∀ {H : Type} (enc : TypeId × Value → H) (base : Nat) (spare : Nat → Bool) (held : Bool) (fuel : Nat) (cs : List Value) (x : DataW H × List MemPlace),
    DataW.trod enc P w base spare held fuel e cs = some x → ∃ y, d.K w y cs ∧ V y

theorem Opens.string {P : Program} {w : World} {e : TypeId} (ht : P.underlying e = some .string) : Opens P w e Kd.string (fun s => s.size ≤ maxLen) := by
  intro H enc base spare held fuel cs x h
  obtain ⟨s, rfl, _, hs⟩ := DataW.trod_string ht h
  exact ⟨s, rfl, hs⟩
theorem Opens.bool {P : Program} {w : World} {e : TypeId} (ht : P.underlying e = some .bool) : Opens P w e Kd.bool (fun _ => True) := by
  intro H enc base spare held fuel cs x h
  obtain ⟨s, rfl, _⟩ := DataW.trod_bool ht h
  exact ⟨s, rfl, trivial⟩
theorem Opens.int {P : Program} {w : World} {e : TypeId} {k : IntKind} (ht : P.underlying e = some (.int k)) : Opens P w e (Kd.int k) (fun n => (Lit.int k n).wf = true) := by
  intro H enc base spare held fuel cs x h
  obtain ⟨s, rfl, _, hs⟩ := DataW.trod_int ht h
  exact ⟨s, rfl, hs⟩
theorem Opens.imp {α : Type} {P : Program} {w : World} {e : TypeId} {d : Kd α} {V V' : α → Prop} (h : Opens P w e d V) (hv : ∀ x, V x → V' x) : Opens P w e d V' := by
  intro H enc base spare held fuel cs x hx
  obtain ⟨y, h1, h2⟩ := h enc base spare held fuel cs x hx
  exact ⟨y, h1, hv _ h2⟩
theorem Opens.slice {α : Type} [Inhabited α] {P : Program} {w : World} {t e : TypeId} {d : Kd α} {V : α → Prop} (ht : P.underlying t = some (.slice e)) (hsz : P.cellsOf e = d.sz) (hd : Opens P w e d V) (q : Nat) :
    Opens P w t (Kd.slice q d) (fun xs => ∀ x ∈ xs, V x) := by
  intro H enc base spare held fuel cs x h
  rcases Deep.open_slice ht h with ⟨rfl, _⟩ | ⟨a, len, cap, m, n, D, Pl, rfl, _, hl, hm, hmm, _, hx⟩
  · exact ⟨[], ⟨none, 0, rfl, Nat.le_refl _, Kd.C_nil _ _⟩, by simp⟩
  · have hlm : len ≤ m := by rw [hmm]; split <;> omega
    obtain ⟨Y, hY⟩ := Deep.choose_lt (α := α) (n := len) (p := fun i y => ∃ cs', w.cells? base (a.add (i * P.cellsOf e)) (P.cellsOf e) = some cs' ∧ d.K w y cs' ∧ V y) (by
      intro i hi
      obtain ⟨cs', h1, h2⟩ := hx i (by omega)
      obtain ⟨y, h3, h4⟩ := hd enc base spare held n cs' _ h2
      exact ⟨y, cs', h1, h3, h4⟩)
    refine ⟨(List.range len).map Y, ⟨some a, cap, by simp, by simpa using hl, ?_⟩, ?_⟩
    · refine ⟨rfl, by simp [maxLen] at hm ⊢; omega, fun _ => ⟨a, rfl, fun j p hp => ?_⟩⟩
      rw [List.getElem?_map] at hp
      obtain ⟨i, hi, rfl⟩ := Option.map_eq_some_iff.1 hp
      obtain ⟨hlt, hie⟩ := List.getElem?_eq_some_iff.1 hi
      simp at hlt hie
      subst hie
      obtain ⟨cs', h1, h2, h3⟩ := hY j hlt
      obtain ⟨_, hlen, hc⟩ := World.cells?_some h1
      refine ⟨cs', d.K_len h2, h2, fun i u hu => ?_⟩
      have hi' : i < P.cellsOf e := by rw [← hlen]; exact (List.getElem?_eq_some_iff.1 hu).1
      have := hc i hi'
      rw [Deep.add_add, hsz] at this
      rw [this]; exact hu
    · intro y hy
      obtain ⟨i, hi, rfl⟩ := List.mem_map.1 hy
      obtain ⟨_, _, _, h⟩ := hY i (by simpa using hi)
      exact h

/-- Fields from an offset on. -/
def OpensL {α : Type} (P : Program) (w : World) (fs : List Field) (off : Nat) (d : Kd α) (V : α → Prop) : Prop :=
  ∀ {H : Type} (enc : TypeId × Value → H) (base : Nat) (spare : Nat → Bool) (held : Bool) (fuel : Nat) (cs : List Value),
    cs.length = off + d.sz → (∀ f ∈ fs, ∃ x, DataW.trod enc P w base spare held fuel f.type ((cs.drop f.offset).take (P.cellsOf f.type)) = some x) → ∃ y, d.K w y (cs.drop off) ∧ V y
theorem OpensL.one {α : Type} {P : Program} {w : World} {f : Field} {off : Nat} {d : Kd α} {V : α → Prop} (ho : f.offset = off) (hs : P.cellsOf f.type = d.sz) (hd : Opens P w f.type d V) : OpensL P w [f] off d V := by
  intro H enc base spare held fuel cs hl hf
  obtain ⟨x, hx⟩ := hf f (by simp)
  obtain ⟨y, h1, h2⟩ := hd enc base spare held fuel _ x hx
  refine ⟨y, ?_, h2⟩
  rw [ho, hs, List.take_of_length_le (by simp; omega)] at h1
  exact h1
theorem OpensL.cons {α β : Type} {P : Program} {w : World} {f : Field} {fs : List Field} {off : Nat} {d : Kd α} {d' : Kd β} {V : α → Prop} {V' : β → Prop} (ho : f.offset = off) (hs : P.cellsOf f.type = d.sz) (hd : Opens P w f.type d V)
    (h : OpensL P w fs (off + d.sz) d' V') : OpensL P w (f :: fs) off (Kd.pair d d') (fun y => V y.1 ∧ V' y.2) := by
  intro H enc base spare held fuel cs hl hf
  obtain ⟨x, hx⟩ := hf f (by simp)
  obtain ⟨y, h1, h2⟩ := hd enc base spare held fuel _ x hx
  have hp : (Kd.pair d d').sz = d.sz + d'.sz := rfl
  obtain ⟨z, h3, h4⟩ := h enc base spare held fuel cs (by omega) (fun g hg => hf g (List.mem_cons_of_mem _ hg))
  refine ⟨(y, z), ⟨(cs.drop off).take d.sz, cs.drop (off + d.sz), ?_, ?_, h3⟩, h2, h4⟩
  · rw [← List.drop_drop, List.take_append_drop]
  · rw [ho, hs] at h1; exact h1
theorem Opens.struct {α β : Type} {P : Program} {w : World} {t : TypeId} {fs : Array Field} {d : Kd α} {V : α → Prop} (ht : P.underlying t = some (.struct fs)) (hs : P.cellsOf t = d.sz) (h : OpensL P w fs.toList 0 d V)
    (f : β → α) (g : α → β) (hfg : ∀ a, f (g a) = a) : Opens P w t (Kd.iso d f) (fun y => V (f y)) := by
  intro H enc base spare held fuel cs x hx
  obtain ⟨xs, n, _, _, hl, hxl, hall⟩ := DataW.trod_struct ht hx
  obtain ⟨y, h1, h2⟩ := h enc base spare held n cs (by omega) (by
    intro f hf
    obtain ⟨i, hi⟩ := List.getElem?_of_mem hf
    have hi' : fs[i]? = some f := by simpa using hi
    have hlt : i < xs.length := by rw [hxl]; exact (Array.getElem?_eq_some_iff.1 hi').1
    exact ⟨xs[i], by rw [hall i f hi', List.getElem?_eq_getElem hlt]⟩)
  refine ⟨g y, ?_, by show V (f (g y)); rw [hfg]; exact h2⟩
  show d.K w (f (g y)) cs
  rw [hfg]
  simpa using h1

/-- An argument by its kind. -/
theorem open_slice_arg {α : Type} {P : Program} {w : World} {t : TypeId} {q : Nat} {d : Kd α} {V : List α → Prop} (ho : Opens P w t (Kd.slice q d) V) {H : Type} {enc : TypeId × Value → H} {base : Nat} {spare : Nat → Bool} {held : Bool} {v : Value} {D : DataW H} {p : List MemPlace}
    (hv : ∃ a n c, v = .slice a n c) (h : DataW.Trod enc P w base spare held t v D p) : ∃ A c xs, v = .slice A xs.length c ∧ xs.length ≤ c ∧ d.C w A xs.length xs ∧ V xs := by
  obtain ⟨a, n, c, rfl⟩ := hv
  obtain ⟨fuel, hf⟩ := h
  obtain ⟨xs, ⟨A, c', he, hlc, hC⟩, hV⟩ := ho enc base spare held fuel _ _ hf
  simp [Value.cells] at he
  obtain ⟨rfl, rfl, rfl⟩ := he
  exact ⟨_, _, xs, rfl, hlc, hC, hV⟩
end Go.Proofs.YteoljiclmhmbnaaDoor.K

/-
  An entry of unknown words, and a class, that can be read as data are of their kinds.
-/
set_option linter.unusedVariables false
set_option linter.unusedSimpArgs false
namespace Go.Proofs.YteoljiclmhmbnaaDoor.Tx
open Go.RowKit Go.Proofs.YteoljiclmhmbnaaDoor.K Go.Proofs.YteoljiclmhmbnaaDoorW.PrintWords

set_option maxRecDepth 20000 in
theorem opens_un {w : World} : Opens Tryd.prog w 60 kUn (fun _ => True) := by
  have hs : Opens Tryd.prog w 9 Kd.string (fun s => s.size ≤ maxLen) := Opens.string Tryd.underlying9
  have hl : Opens Tryd.prog w 29 (Kd.slice 9 Kd.string) (fun xs => ∀ x ∈ xs, x.size ≤ maxLen) := Opens.slice Tryd.underlying29 (by kernel_rfl) hs 9
  have hi := @Opens.int _ w 3 _ Tryd.underlying3
  obtain ⟨fs, hfs⟩ : ∃ fs, Tryd.prog.underlying 60 = some (.struct fs) := ⟨_, Tryd.underlying60⟩
  have hl5 : ∃ f0 f1 f2 f3 f4 : Field, fs.toList = [f0, f1, f2, f3, f4] ∧ f0.offset = 0 ∧ f0.type = 3 ∧ f1.offset = 1 ∧ f1.type = 3 ∧ f2.offset = 2 ∧ f2.type = 3 ∧ f3.offset = 3 ∧ f3.type = 3 ∧ f4.offset = 4 ∧ f4.type = 29 := by
    have h := Tryd.underlying60
    rw [hfs] at h
    simp only [Option.some.injEq, TypeDesc.struct.injEq] at h
    subst h
    exact ⟨_, _, _, _, _, rfl, rfl, rfl, rfl, rfl, rfl, rfl, rfl, rfl, rfl, rfl⟩
  obtain ⟨f0, f1, f2, f3, f4, hl5, o0, t0, o1, t1, o2, t2, o3, t3, o4, t4⟩ := hl5
  have c3 : Tryd.prog.cellsOf 3 = 1 := by kernel_rfl
  have c29 : Tryd.prog.cellsOf 29 = 1 := by kernel_rfl
  have k4 := @OpensL.one _ Tryd.prog w f4 4 (Kd.slice 9 Kd.string) _ o4 (by rw [t4]; exact c29) (by rw [t4]; exact @hl)
  have k3 := @OpensL.cons _ _ Tryd.prog w f3 [f4] 3 (Kd.int .i64) _ _ _ o3 (by rw [t3]; exact c3) (by rw [t3]; exact @hi) @k4
  have k2 := @OpensL.cons _ _ Tryd.prog w f2 [f3, f4] 2 (Kd.int .i64) _ _ _ o2 (by rw [t2]; exact c3) (by rw [t2]; exact @hi) @k3
  have k1 := @OpensL.cons _ _ Tryd.prog w f1 [f2, f3, f4] 1 (Kd.int .i64) _ _ _ o1 (by rw [t1]; exact c3) (by rw [t1]; exact @hi) @k2
  have k0 := @OpensL.cons _ _ Tryd.prog w f0 [f1, f2, f3, f4] 0 (Kd.int .i64) _ _ _ o0 (by rw [t0]; exact c3) (by rw [t0]; exact @hi) @k1
  rw [← hl5] at k0
  have h := @Opens.struct _ _ Tryd.prog w 60 fs _ _ hfs (by kernel_rfl) @k0 (fun x : Un => x) (fun x => x) (fun _ => rfl)
  intro H enc base spare held fuel cs x hx
  obtain ⟨y, h1, _⟩ := @h H enc base spare held fuel cs x hx
  exact ⟨y, h1, trivial⟩
set_option maxRecDepth 20000 in
theorem opens_cls {w : World} : Opens Tryd.prog w 52 kCls (fun _ => True) := by
  have hs : Opens Tryd.prog w 9 Kd.string (fun s => s.size ≤ maxLen) := Opens.string Tryd.underlying9
  have hb := @Opens.bool _ w 4 Tryd.underlying4
  obtain ⟨fs, hfs⟩ : ∃ fs, Tryd.prog.underlying 52 = some (.struct fs) := ⟨_, Tryd.underlying52⟩
  have hl3 : ∃ f0 f1 f2 : Field, fs.toList = [f0, f1, f2] ∧ f0.offset = 0 ∧ f0.type = 9 ∧ f1.offset = 1 ∧ f1.type = 4 ∧ f2.offset = 2 ∧ f2.type = 4 := by
    have h := Tryd.underlying52
    rw [hfs] at h
    simp only [Option.some.injEq, TypeDesc.struct.injEq] at h
    subst h
    exact ⟨_, _, _, rfl, rfl, rfl, rfl, rfl, rfl, rfl⟩
  obtain ⟨f0, f1, f2, hl3, o0, t0, o1, t1, o2, t2⟩ := hl3
  have c9 : Tryd.prog.cellsOf 9 = 1 := by kernel_rfl
  have c4 : Tryd.prog.cellsOf 4 = 1 := by kernel_rfl
  have k2 := @OpensL.one _ Tryd.prog w f2 2 Kd.bool _ o2 (by rw [t2]; exact c4) (by rw [t2]; exact @hb)
  have k1 := @OpensL.cons _ _ Tryd.prog w f1 [f2] 1 Kd.bool _ _ _ o1 (by rw [t1]; exact c4) (by rw [t1]; exact @hb) @k2
  have k0 := @OpensL.cons _ _ Tryd.prog w f0 [f1, f2] 0 Kd.string _ _ _ o0 (by rw [t0]; exact c9) (by rw [t0]; exact @hs) @k1
  rw [← hl3] at k0
  have h := @Opens.struct _ _ Tryd.prog w 52 fs _ _ hfs (by kernel_rfl) @k0 (fun x : Cls => x) (fun x => x) (fun _ => rfl)
  intro H enc base spare held fuel cs x hx
  obtain ⟨y, h1, _⟩ := @h H enc base spare held fuel cs x hx
  exact ⟨y, h1, trivial⟩
end Go.Proofs.YteoljiclmhmbnaaDoor.Tx
