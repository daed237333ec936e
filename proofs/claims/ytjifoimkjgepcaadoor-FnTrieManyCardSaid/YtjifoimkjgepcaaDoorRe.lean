/-
  The walks of (*bytes.Reader).Read, io.ReadFull and zzRead where too few bytes are left.
-/
import Derived.Test.YtjifoimkjgepcaaDoorZs
import Derived.Stop.LaidErr
import Derived.LaidEql
import Derived.MakeChecks
set_option linter.unusedVariables false
set_option linter.unusedSimpArgs false
namespace Go.Proofs.YtjifoimkjgepcaaDoor.Z
open Go.RowKit Go.Proofs.YtjifoimkjgepcaaDoor.K Go.Proofs.YtjifoimkjgepcaaDoorW.PrintWords

abbrev tEs : Nat := 128
abbrev gE : Nat := 3
abbrev gU : Nat := 4
/-- What the package's errors hold. -/
def Errs (p q : Addr) (w : World) : Prop := w.cell? ⟨gE, 0, none⟩ = some (.iface tEs (.pointer (some p))) ∧ w.cell? ⟨gU, 0, none⟩ = some (.iface tEs (.pointer (some q)))
theorem Errs.same {p q : Addr} {w w' : World} (h : Errs p q w) (h1 : w'.heap[gE]? = w.heap[gE]?) (h2 : w'.heap[gU]? = w.heap[gU]?) : Errs p q w' :=
  ⟨(World.cell?_of_block (w := w) (a := ⟨gE, 0, none⟩) h1).trans h.1, (World.cell?_of_block (w := w) (a := ⟨gU, 0, none⟩) h2).trans h.2⟩
theorem Errs.lt {p q : Addr} {w : World} (h : Errs p q w) : gE < w.heap.size ∧ gU < w.heap.size := ⟨World.block_lt_of_cell? w ⟨gE, 0, none⟩ h.1, World.block_lt_of_cell? w ⟨gU, 0, none⟩ h.2⟩
theorem Errs.below {p q : Addr} {w w' : World} (h : Errs p q w) (hb : Below w.heap.size w w') : Errs p q w' := h.same (hb.block _ h.lt.1) (hb.block _ h.lt.2)
theorem Errs.keeps {p q : Addr} {S : Nat → Prop} {w w' : World} (h : Errs p q w) (k : Keeps S w w') (h1 : ¬ S gE) (h2 : ¬ S gU) : Errs p q w' := h.same (k.block _ h.lt.1 h1) (k.block _ h.lt.2 h2)
set_option maxHeartbeats 1000000 in
set_option maxRecDepth 5000 in
theorem reader_eof (rb L cS pos m c : Nat) (prev : Int) (A B : Option Addr) (p q : Addr) (w : World) (hr : w.heap[rb]? = some (.cells #[.slice A L cS, .int .i64 pos, .int .i64 prev] tRd (0, 0))) (hl : L ≤ pos) (hE : Errs p q w) :
    Calls Tryd.prog 130 #[.pointer (some ⟨rb, 0, none⟩), .slice B m c] w fun e w' => e = .returned (.tuple #[.int .i64 0, .iface tEs (.pointer (some p))]) ∧ ∃ n, w' = w.drewN n := by
  have c0 : w.cell? ⟨rb, 0, none⟩ = some (.slice A L cS) := cell_block hr 0
  have c1 : w.cell? ⟨rb, 1, none⟩ = some (.int .i64 pos) := cell_block hr 1
  have HE := Lib.hid hE
  clear hr hE
  go_enter Tryd.func130, Tryd.ntmps130
  go_wp2_with fail
  go_quiet (fail)
  have he : (w.drewN nq).cell? ⟨gE, 0, none⟩ = some (.iface tEs (.pointer (some p))) := HE.out.1
  obtain ⟨w1, hw1⟩ : ∃ w1, w1 = w.drewN nq := ⟨_, rfl⟩
  rw [← hw1] at he ⊢
  have HW := Lib.hid hw1
  clear hw1 c0 c1
  go_wp2_with fail
  go_quiet (fail)
  go_wp2_with fail
  go_ret2
  exact ⟨rfl, _, by rw [HW.out, World.drewN_drewN]⟩
set_option maxHeartbeats 1000000 in
set_option maxRecDepth 5000 in
theorem reader_part (rb g n m c L cS pos : Nat) (prev : Int) (ad : Addr) (cur : Array Value) (cs : List Value) (w : World)
    (hr : w.heap[rb]? = some (.cells #[.slice (some ad) L cS, .int .i64 pos, .int .i64 prev] tRd (0, 0))) (hg : w.heap[g]? = some (.cells cur U8 (0, 0))) (hcur : cur.size = n)
    (hn : 1 ≤ m) (hmn : m ≤ n) (hl : pos + m ≤ L) (hl2 : L ≤ pos + m) (hL : L ≤ cS) (hcS : L ≤ maxLen) (hcs : cs.length = m) (h1 : ∀ v ∈ cs, v.oneCell' = true) (had : ad.block ≠ rb)
    (hsrc : ∀ j v, cs[j]? = some v → w.cell? ((ad.add pos).add j) = some v) :
    Calls Tryd.prog 130 #[.pointer (some ⟨rb, 0, none⟩), .slice (some ⟨g, 0, none⟩) n c] w fun e w' => e = .returned (.tuple #[.int .i64 m, .nilIface]) ∧
      w'.heap[rb]? = some (.cells #[.slice (some ad) L cS, .int .i64 (pos + m : Nat), .int .i64 (-1)] tRd (0, 0)) ∧ w'.heap[g]? = some (.cells (cs ++ cur.toList.drop m).toArray U8 (0, 0)) ∧ Keeps (fun i => i = rb ∨ i = g) w w' := by
  have hgr : g ≠ rb := by
    rintro rfl
    rw [hr] at hg
    injection hg with hg
    injection hg with _ h2 _
    exact absurd h2 (by decide)
  have c0 : w.cell? ⟨rb, 0, none⟩ = some (.slice (some ad) L cS) := cell_block hr 0
  have c1 : w.cell? ⟨rb, 1, none⟩ = some (.int .i64 pos) := cell_block hr 1
  have c2 : w.cell? ⟨rb, 2, none⟩ = some (.int .i64 prev) := cell_block hr 2
  have f2 := frozen_block hr 2
  have hw : wrap64 ((pos : Int) + m) = ((pos + m : Nat) : Int) := by
    have : L ≤ 9223372036854775807 := by simpa [maxLen] using hcS
    unfold wrap64
    omega
  have hcutF : ∀ W : World, (Instr.slice 33 (.slice (some ad) L cS) (some (.int .i64 pos)) none none).run Tryd.prog W = .ok (.slice (some (ad.add pos)) (L - pos) (cS - pos)) W := fun W => by
    obtain ⟨i0, hi0, hsz0⟩ : ∃ i, Tryd.prog.info? 5 = some i ∧ i.size = 1 := ⟨_, rfl, rfl⟩
    rw [cut_from (P := Tryd.prog) 33 5 .i64 Tryd.underlying33 hi0 1 hsz0 (some ad) L cS (pos : Int) (by omega) (by omega) W]
    rw [if_neg (by simp; omega)]
    simp
  go_enter Tryd.func130, Tryd.ntmps130
  go_wp2_with fail
  go_quiet (fail)
  have hL' : ¬ (L ≤ pos) := by omega
  generalize hwq : w.drewN nq = w1
  have k1 : Keeps (fun i => i = rb ∨ i = g) w w1 := hwq ▸ (Keeps.refl _ w).drewN nq
  have r1 : w1.heap[rb]? = some (.cells #[.slice (some ad) L cS, .int .i64 pos, .int .i64 prev] tRd (0, 0)) := hwq ▸ hr
  have g1 : w1.heap[g]? = some (.cells cur U8 (0, 0)) := hwq ▸ hg
  have d2 : w1.cell? ⟨rb, 2, none⟩ = some (.int .i64 prev) := cell_block r1 2
  have e2 := frozen_block r1 2
  have hsrc1 := Lib.hid (show ∀ j v, cs[j]? = some v → w1.cell? ((ad.add pos).add j) = some v from fun j v h => hwq ▸ hsrc j v h)
  have K1 := Lib.hid k1
  have R1 := Lib.hid r1
  have G1 := Lib.hid g1
  clear hwq c0 c1 c2 f2 hr hg hsrc k1 r1 g1
  go_wp2_with fail
  generalize hwq : w1.setCell ⟨rb, 2, none⟩ (.int .i64 (-1)) = w2
  have k2 : Keeps (fun i => i = rb ∨ i = g) w w2 := hwq ▸ K1.out.setCell (.inl rfl) _
  have r2 : w2.heap[rb]? = some (.cells #[.slice (some ad) L cS, .int .i64 pos, .int .i64 (-1)] tRd (0, 0)) := hwq ▸ Lib.heap_setCell_same R1.out _
  have g2 : w2.heap[g]? = some (.cells cur U8 (0, 0)) := hwq ▸ (Below.heap_setCell _ _ _ _ hgr).trans G1.out
  have hsrc2 := Lib.hid (show ∀ j v, cs[j]? = some v → w2.cell? ((ad.add pos).add j) = some v from fun j v h => hwq ▸ (by
    rw [World.cell?_setCell_other _ _ _ _ (fun e => had ((show ((ad.add pos).add j).block = ad.block by unfold Addr.add; split <;> rename_i h <;> (first | rfl | (split <;> rfl))).symm.trans (congrArg Addr.block e).symm))]
    exact hsrc1.out j v h))
  have e0 : w2.cell? ⟨rb, 0, none⟩ = some (.slice (some ad) L cS) := cell_block r2 0
  have e1 : w2.cell? ⟨rb, 1, none⟩ = some (.int .i64 pos) := cell_block r2 1
  have K2 := Lib.hid k2
  have R2 := Lib.hid r2
  have G2 := Lib.hid g2
  clear hwq d2 e2 hsrc1 K1 R1 G1 k2 r2 g2
  go_still_tail 10, (by kernel_rfl)
  change wpList _ _ _ _ _ w2.drew
  generalize hwq : w2.drew = w3
  have k3 : Keeps (fun i => i = rb ∨ i = g) w w3 := hwq ▸ (K2.out.trans ((Keeps.refl _ w2).drewN 1))
  have r3 : w3.heap[rb]? = some (.cells #[.slice (some ad) L cS, .int .i64 pos, .int .i64 (-1)] tRd (0, 0)) := hwq ▸ R2.out
  have g3 : w3.heap[g]? = some (.cells cur U8 (0, 0)) := hwq ▸ G2.out
  have hsrc3 := Lib.hid (show ∀ j v, cs[j]? = some v → w3.cell? ((ad.add pos).add j) = some v from fun j v h => hwq ▸ hsrc2.out j v h)
  have K3 := Lib.hid k3
  have R3 := Lib.hid r3
  have G3 := Lib.hid g3
  clear hwq e0 e1 hsrc2 K2 R2 G2 k3 r3 g3
  refine wpList_copy_own rfl (.tmp 20) (.tmp 29) 33 33 rfl 5 Tryd.underlying33 (by kernel_rfl) g 0 n c (ad.add pos) (L - pos) (cS - pos) rfl rfl cur U8 G3.out cs (by rw [hcs]; exact (show m = min (L - pos) n by omega)) hsrc3.out (by omega) h1 ?_
  have hrow : (cur.toList.take 0 ++ (cs ++ cur.toList.drop (0 + cs.length))).toArray = (cs ++ cur.toList.drop m).toArray := by
    rw [List.take_zero, List.nil_append, Nat.zero_add, hcs]
  rw [hrow, hcs]
  generalize hwq : w3.setRow g (cs ++ cur.toList.drop m).toArray = w4
  have k4 : Keeps (fun i => i = rb ∨ i = g) w w4 := hwq ▸ K3.out.setRow (.inr rfl) _
  have r4 : w4.heap[rb]? = some (.cells #[.slice (some ad) L cS, .int .i64 pos, .int .i64 (-1)] tRd (0, 0)) := hwq ▸ (setRow_other _ _ _ _ (Ne.symm hgr)).trans R3.out
  have g4 : w4.heap[g]? = some (.cells (cs ++ cur.toList.drop m).toArray U8 (0, 0)) := hwq ▸ setRow_heap _ _ _ _ _ _ G3.out
  have e1 : w4.cell? ⟨rb, 1, none⟩ = some (.int .i64 pos) := cell_block r4 1
  have f1 := frozen_block r4 1
  have K4 := Lib.hid k4
  have R4 := Lib.hid r4
  have G4 := Lib.hid g4
  clear hwq hrow hsrc3 K3 R3 G3 k4 r4 g4
  go_wp2_with fail
  rw [hw]
  go_ret2
  refine ⟨rfl, Lib.heap_setCell_same R4.out _, (Below.heap_setCell _ _ _ _ hgr).trans G4.out, K4.out.setCell (.inl rfl) _⟩

def errN : Value → Nat
  | .nilIface => 1
  | _ => 0
/-- What is left to be read at a reader, as cells. -/
def Left (A : Option Addr) (rb L pos : Nat) (w : World) : Prop := pos < L → ∃ (ad : Addr) (cs : List Value), A = some ad ∧ ad.block ≠ rb ∧ cs.length = L - pos ∧ (∀ v ∈ cs, v.oneCell' = true) ∧ ∀ (j : Nat) (v : Value), cs[j]? = some v → w.cell? ((ad.add pos).add j) = some v
/-- A read that ended early. -/
def ShortRet (e : Ending) (S : Nat → Prop) (w w' : World) : Prop := ∃ (k : Nat) (t : Addr), e = .returned (.tuple #[.int .i64 k, .iface tEs (.pointer (some t))]) ∧ Keeps S w w'
set_option maxHeartbeats 2000000 in
set_option maxRecDepth 5000 in
theorem readAtLeast_short (rb g n L cS pos : Nat) (prev : Int) (A : Option Addr) (p q : Addr) (cur : Array Value) (w : World)
    (hr : w.heap[rb]? = some (.cells #[.slice A L cS, .int .i64 pos, .int .i64 prev] tRd (0, 0))) (hg : w.heap[g]? = some (.cells cur U8 (0, 0))) (hcur : cur.size = n) (hnb : n ≤ 100)
    (hpl : pos ≤ L) (hl : L < pos + n) (hL : L ≤ cS) (hcS : L ≤ maxLen) (hleft : Left A rb L pos w) (hE : Errs p q w) (hg1 : gE ≠ g) (hg2 : gU ≠ g) :
    Calls Tryd.prog 76 #[.iface tpRd (.pointer (some ⟨rb, 0, none⟩)), .slice (some ⟨g, 0, none⟩) n n, .int .i64 n] w fun e w' => ShortRet e (fun i => i = rb ∨ i = g) w w' := by
  have HR := Lib.hid hr
  have HG := Lib.hid hg
  have HE := Lib.hid hE
  have hgE : gE ≠ rb ∧ gU ≠ rb := by
    have hcE := hE.1
    have hcU := hE.2
    refine ⟨?_, ?_⟩
    · intro e
      rw [e, cell_block hr 0] at hcE
      simp at hcE
    · intro e
      rw [e, cell_block hr 0] at hcU
      simp at hcU
  have HNE := Lib.hid hgE
  have HNG := Lib.hid (And.intro hg1 hg2)
  have HE' : ∀ wr : World, Keeps (fun i => i = rb ∨ i = g) w wr → Errs p q wr := fun wr k => hE.keeps k (fun h => h.elim hgE.1 hg1) (fun h => h.elim hgE.2 hg2)
  have HKE := Lib.hid HE'
  have HLF := Lib.hid hleft
  clear hr hg hE hleft hgE hg1 hg2 HE'
  have hcut0 : ∀ W : World, (Instr.slice 33 (.slice (some ⟨g, 0, none⟩) n n) (some (.int .i64 0)) none none).run Tryd.prog W = .ok (.slice (some ⟨g, 0, none⟩) n n) W := fun W => by
    obtain ⟨i0, hi0, hsz0⟩ : ∃ i, Tryd.prog.info? 5 = some i ∧ i.size = 1 := ⟨_, rfl, rfl⟩
    rw [cut_from (P := Tryd.prog) 33 5 .i64 Tryd.underlying33 hi0 1 hsz0 (some ⟨g, 0, none⟩) n n 0 (by omega) (by omega) W]
    rw [if_neg (by simp; omega)]
    rfl
  have hcutM : ∀ (m : Nat), m < n → ∀ W : World, (Instr.slice 33 (.slice (some ⟨g, 0, none⟩) n n) (some (.int .i64 m)) none none).run Tryd.prog W = .ok (.slice (some ((⟨g, 0, none⟩ : Addr).add m)) (n - m) (n - m)) W := fun m hm W => by
    obtain ⟨i0, hi0, hsz0⟩ : ∃ i, Tryd.prog.info? 5 = some i ∧ i.size = 1 := ⟨_, rfl, rfl⟩
    rw [cut_from (P := Tryd.prog) 33 5 .i64 Tryd.underlying33 hi0 1 hsz0 (some ⟨g, 0, none⟩) n n m (by omega) (by omega) W]
    rw [if_neg (by simp; omega)]
    simp
  have HCM := Lib.hid hcutM
  clear hcutM
  have hna := reader_nilAhead ⟨rb, 0, none⟩
  have hme := reader_method ⟨rb, 0, none⟩
  go_enter Tryd.func76, Tryd.ntmps76
  go_wp2_with fail
  go_loopw [6, 7] (fun x y wr => (x = .int .i64 0 ∧ y = .nilIface ∧ Hid (wr = w)) ∨ (∃ m : Nat, 1 ≤ m ∧ m < n ∧ x = .int .i64 m ∧ y = .nilIface ∧ Hid (wr.heap[rb]? = some (.cells #[.slice A L cS, .int .i64 L, .int .i64 (-1)] tRd (0, 0))) ∧ Hid (Keeps (fun i => i = rb ∨ i = g) w wr)) ∨
    (∃ m : Nat, m < n ∧ x = .int .i64 m ∧ y = .iface tEs (.pointer (some p)) ∧ Hid (Keeps (fun i => i = rb ∨ i = g) w wr))) (fun x y _ => errN y * (if intOf x = 0 then 2 else 1))
  case atStart => exact .inl ⟨rfl, rfl, Lib.hid rfl⟩
  case round =>
    obtain ⟨rfl, rfl, HW⟩ | ⟨m, hm1, hmn, rfl, rfl, HR1, HK1⟩ | ⟨m, hmn, rfl, rfl, HK1⟩ := hrel
    · have hn0 : (0 : Int) < n := by omega
      by_cases hlt : pos < L
      · obtain ⟨ad, cs, rfl, had, hcs, h1, hsrc⟩ := HLF.out hlt
        obtain ⟨m, rfl⟩ : ∃ m, L = pos + m := ⟨L - pos, by omega⟩
        have hm1 : 1 ≤ m := by omega
        have hmn : m < n := by omega
        have HS := Lib.hid hsrc
        have HCS := Lib.hid (show cs.length = m by omega)
        have H1 := Lib.hid h1
        clear hcs h1 hsrc hlt hpl hl HLF
        go_wp2_with fail
        go_region_with (go_at_call 130; refine (reader_part rb g n m n (pos + m) cS pos prev ad cur cs _ ?_ ?_ hcur hm1 (Nat.le_of_lt hmn) (Nat.le_refl _) (Nat.le_refl _) hL hcS HCS.out H1.out had ?_).mono ?_; rw [HW.out]; exact HR.out; rw [HW.out]; exact HG.out; rw [HW.out]; exact HS.out; rintro e w2 ⟨rfl, hrest⟩; have HW2 := Lib.hid hrest; clear hrest)
        all_goals
          go_wp2_with fail
          refine ⟨.inr (.inl ⟨m, hm1, hmn, by go_num, rfl, Lib.hid HW2.out.1, Lib.hid (HW.out ▸ ((Keeps.refl _ wr).drewN 1).trans HW2.out.2.2)⟩), ?_⟩
          simp [intOf, errN]
          rw [if_neg (by omega)]
          omega
      · have hpe : pos = L := by omega
        subst hpe
        clear hpl hlt
        go_wp2_with fail
        go_region_with (go_at_call 130; refine (reader_eof rb pos cS pos n n prev A _ p q _ ?_ (Nat.le_refl _) ?_).mono ?_; rw [HW.out]; exact HR.out; rw [HW.out]; exact HE.out; rintro e w2 ⟨rfl, hrest⟩; have HW2 := Lib.hid hrest; clear hrest)
        all_goals
          go_wp2_with fail
          refine ⟨.inr (.inr ⟨0, by omega, by go_num, rfl, Lib.hid (HW.out ▸ (((Keeps.refl _ wr).drewN 1).trans (HW2.out.elim fun k hk => hk ▸ (Keeps.refl _ _).drewN k)))⟩), ?_⟩
          simp [intOf, errN]
    · have hcm := HCM.out m hmn
      have hlt : (m : Int) < (n : Int) := by omega
      have hm0 : ¬ ((n : Int) ≤ (m : Int)) := by omega
      go_wp2_with fail
      go_region_with (go_at_call 130; refine (reader_eof rb L cS L (n - m) (n - m) (-1) A _ p q _ ?_ (Nat.le_refl _) ?_).mono ?_; exact HR1.out; exact HKE.out wr HK1.out; rintro e w2 ⟨rfl, hrest⟩; have HW2 := Lib.hid hrest; clear hrest)
      all_goals
        go_wp2_with fail
        refine ⟨.inr (.inr ⟨m, hmn, by go_num, rfl, Lib.hid (HK1.out.trans (((Keeps.refl _ wr).drewN 1).trans (HW2.out.elim fun k hk => hk ▸ (Keeps.refl _ _).drewN k)))⟩), ?_⟩
        simp [intOf, errN]
        rw [if_neg (by omega)]
        omega
    · have hlt : ¬ ((n : Int) ≤ (m : Int)) := by omega
      by_cases hm0 : m = 0
      · subst hm0
        go_wp2_with fail
        go_ret2
        exact ⟨0, p, rfl, HK1.out⟩
      · have hmp : (0 : Int) < (m : Int) := by omega
        have hcE : wr.cell? ⟨gE, 0, none⟩ = some (.iface tEs (.pointer (some p))) := (HKE.out wr HK1.out).1
        have hcU : wr.cell? ⟨gU, 0, none⟩ = some (.iface tEs (.pointer (some q))) := (HKE.out wr HK1.out).2
        obtain ⟨ms, hms⟩ : ∃ ms, Tryd.prog.underlying 59 = some (.interface ms) := ⟨_, rfl⟩
        obtain ⟨i1, hi1, hi2⟩ : ∃ i, Tryd.prog.info? tEs = some i ∧ i.comparable = true := ⟨_, rfl, rfl⟩
        obtain ⟨j1, hj1⟩ : ∃ j, Tryd.prog.info? 130 = some j := ⟨_, rfl⟩
        have heq : ∀ W : World, (binOp .eql 59 (.iface tEs (.pointer (some p))) (.iface tEs (.pointer (some p)))).run Tryd.prog W = .ok (.bool true) W := fun W => run_eql_iface_ptr_same (tp := tEs) (te := 130) W p hms (by kernel_rfl) hi1 hi2 hj1
        go_wp2_with fail
        go_ret2
        exact ⟨m, q, rfl, HK1.out⟩

set_option maxRecDepth 5000 in
theorem readFull_short (rb g n L cS pos : Nat) (prev : Int) (A : Option Addr) (p q : Addr) (cur : Array Value) (w : World)
    (hr : w.heap[rb]? = some (.cells #[.slice A L cS, .int .i64 pos, .int .i64 prev] tRd (0, 0))) (hg : w.heap[g]? = some (.cells cur U8 (0, 0))) (hcur : cur.size = n) (hnb : n ≤ 100)
    (hpl : pos ≤ L) (hl : L < pos + n) (hL : L ≤ cS) (hcS : L ≤ maxLen) (hleft : Left A rb L pos w) (hE : Errs p q w) (hg1 : gE ≠ g) (hg2 : gU ≠ g) :
    Calls Tryd.prog 64 #[.iface tpRd (.pointer (some ⟨rb, 0, none⟩)), .slice (some ⟨g, 0, none⟩) n n] w fun e w' => ShortRet e (fun i => i = rb ∨ i = g) w w' := by
  have H0 := Lib.hid (fun W (h : W = w) => h ▸ readAtLeast_short rb g n L cS pos prev A p q cur w hr hg hcur hnb hpl hl hL hcS hleft hE hg1 hg2)
  clear hr hg hcur hleft hE
  go_enter Tryd.func64, Tryd.ntmps64
  go_wp2_with fail
  refine (H0.out w rfl).mono ?_
  rintro e w2 ⟨k, t, rfl, h⟩
  have H := Lib.hid h
  clear h
  go_wp2
  go_ret2
  exact ⟨k, t, rfl, H.out⟩
end Go.Proofs.YtjifoimkjgepcaaDoor.Z
