/-
  The walk of dict.BuildIndexTable.
-/
import Derived.Test.YtjifoimkjgepcaaVe
import Derived.Lib.JoinLaws
set_option linter.unusedVariables false
set_option linter.unusedSimpArgs false
namespace Go.Proofs.Ytjifoimkjgepcaa.Da
open Go.RowKit Go.ChangeShapes Go.Proofs.Ytjifoimkjgepcaa.K Go.Proofs.YtjifoimkjgepcaaW.PrintWords Go.Maps

abbrev tPv : Nat := 136
abbrev tStr : Nat := 9
abbrev OwnS (base : Nat) (v : Value) (xs : List ByteArray) (w : World) : Prop := w.ownsRow base tStr 1 v (xs.map Value.string).length (xs.map Value.string)
theorem OwnS.reads {base n : Nat} {v : Value} {xs : List ByteArray} {w : World} (h : OwnS base v xs w) (hn : xs.length = n) : ∃ A c, v = .slice A n c ∧ Kd.string.C w A n xs := by
  have h1 : w.ownsRow base tStr 1 v xs.length (encs Value.string xs) := by
    have h2 := h
    unfold OwnS at h2
    rw [List.length_map] at h2
    exact h2
  have hr : Kd.string.R tStr w base (fun _ => True) v xs := Kd.R_of_own h1 (fun _ _ => trivial)
  obtain ⟨A, c, h3, _, h4⟩ := Kd.R_reads hr
  subst hn
  exact ⟨A, c, h3, h4⟩
theorem own_set {w : World} {base e size n : Nat} {v : Value} {xs : List Value} (h : w.ownsRow base e size v n xs) {g t : Nat} {cells : Array Value} (hb : w.heap[g]? = some (.cells cells t (0, 0))) (ht : e ≠ t) (j : Nat) (u : Value) : (w.setCell ⟨g, j, none⟩ u).ownsRow base e size v n xs :=
  own_keep h (fun k hk => by obtain ⟨cur, hc⟩ := own_heap h hk; exact heap_set_ne (typ_ne hc hb ht) j u)
theorem own_map_ne {w : World} {base e size n bm : Nat} {v : Value} {xs : List Value} (h : w.ownsRow base e size v n xs) {cnt : Nat → Nat} (hd : Dup bm cnt w) : v.ownBlock = none ∨ v.ownBlock ≠ some bm := by
  refine .inr (fun e => ?_)
  obtain ⟨cur, hc⟩ := own_heap h e
  obtain ⟨_, D, hn, ⟨es, clock, h1, r⟩, hD⟩ := hd
  rw [hc] at h1
  cases h1
theorem dup_bump {D : DataW Unit} {x : Ix} (hD : DupD D x.cnt) (hm : IsMap D) (hno : x.no ≤ 2147483647) : DupD (D.put (.int .i32 (x.no : Int)) (.lit (.int .i32 ((x.cnt x.no + 1 : Nat) : Int)))) (bump x).cnt := by
  intro j hj
  by_cases e : j = x.no
  · subst e
    rw [atKey_put_same hm (by trivial)]
    show _ = DataW.lit (.int .i32 ((if x.no = x.no then x.cnt x.no + 1 else x.cnt x.no : Nat) : Int))
    rw [if_pos rfl]
  · rw [atKey_put_other (by intro h; injection h with _ h; omega), hD j hj]
    show _ = DataW.lit (.int .i32 ((if j = x.no then x.cnt j + 1 else x.cnt j : Nat) : Int))
    rw [if_neg e]
/-- What lies in memory while an index is built. -/
structure BSt (rc mb xc pc n0 k : Nat) (x : Ix) (kv iv : Value) (w : World) : Prop where
  rc : w.heap[rc]? = some (.cells #[.slice none 0 0, .map none] tIdx (0, 0))
  xc : w.heap[xc]? = some (.cells #[.slice none 0 0, .map (some mb)] tIdx (0, 0))
  pc : w.heap[pc]? = some (.cells #[.int .i64 (x.no : Int), .string x.wd] tPv (0, 0))
  mp : ∃ n D, n ≤ k ∧ w.ownsMap Try.prog tI32 (plainElem Try.prog tI32) mb n D ∧ DupD D x.cnt
  ks : OwnS n0 kv x.K w
  is : OwnI n0 iv x.I w
  ap : Apt kv iv
theorem BSt.dup {rc mb xc pc n0 k : Nat} {x : Ix} {kv iv : Value} {w : World} (h : BSt rc mb xc pc n0 k x kv iv w) (hk : k ≤ 2147483647) : Dup mb x.cnt w := by
  obtain ⟨n, D, hn, h1, h2⟩ := h.mp
  exact ⟨n, D, by omega, h1, h2⟩
theorem keepMap {w w' : World} {b n : Nat} {D : DataW Unit} (h : w.ownsMap Try.prog tI32 (plainElem Try.prog tI32) b n D) (hb : w'.heap[b]? = w.heap[b]?) : w'.ownsMap Try.prog tI32 (plainElem Try.prog tI32) b n D := by
  obtain ⟨es, clock, h1, r⟩ := h
  exact ⟨es, clock, hb.trans h1, r⟩
theorem mapAt {w : World} {b n : Nat} {D : DataW Unit} (h : w.ownsMap Try.prog tI32 (plainElem Try.prog tI32) b n D) : ∃ es c, w.heap[b]? = some (.map es c) := by
  obtain ⟨es, clock, h1, r⟩ := h
  exact ⟨es, clock, h1⟩
/-- All of it stays where nothing but fresh memory is touched. -/
theorem BSt.below {rc mb xc pc n0 k : Nat} {x : Ix} {kv iv : Value} {w w' : World} (h : BSt rc mb xc pc n0 k x kv iv w) (hb : Below w.heap.size w w') : BSt rc mb xc pc n0 k x kv iv w' := by
  obtain ⟨n, D, hn, h1, h2⟩ := h.mp
  obtain ⟨es, c, hm⟩ := mapAt h1
  exact ⟨(hb.block _ (lt_of_heap h.rc)).trans h.rc, (hb.block _ (lt_of_heap h.xc)).trans h.xc, (hb.block _ (lt_of_heap h.pc)).trans h.pc, ⟨n, D, hn, keepMap h1 (hb.block _ (lt_of_heap hm)), h2⟩,
    own_keep h.ks (fun q hq => hb.block q (World.ownsRow.lt h.ks q hq).2), own_keep h.is (fun q hq => hb.block q (World.ownsRow.lt h.is q hq).2), h.ap⟩
/-- The place and the word that stood last are laid anew. -/
theorem BSt.prev {rc mb xc pc n0 k : Nat} {x : Ix} {kv iv : Value} {w : World} (h : BSt rc mb xc pc n0 k x kv iv w) (hrc : rc ≠ pc) (hxc : xc ≠ pc) (no : Nat) (wd : ByteArray) : BSt rc mb xc pc n0 k { x with no := no, wd := wd } kv iv ((w.setCell ⟨pc, 0, none⟩ (.int .i64 (no : Int))).setCell ⟨pc, 1, none⟩ (.string wd)) := by
  obtain ⟨n, D, hn, h1, h2⟩ := h.mp
  obtain ⟨es, c, hm⟩ := mapAt h1
  have hmp : mb ≠ pc := by
    rintro rfl
    rw [h.pc] at hm
    cases hm
  have hp1 : (w.setCell ⟨pc, 0, none⟩ (.int .i64 (no : Int))).heap[pc]? = some (.cells #[.int .i64 (no : Int), .string x.wd] tPv (0, 0)) := by rw [heap_set h.pc]; rfl
  refine ⟨?_, ?_, ?_, ⟨n, D, hn, keepMap h1 ?_, h2⟩, own_set (own_set h.ks h.pc (by decide) 0 _) hp1 (by decide) 1 _, own_set (own_set h.is h.pc (by decide) 0 _) hp1 (by decide) 1 _, h.ap⟩
  · rw [heap_set_ne hrc, heap_set_ne hrc]; exact h.rc
  · rw [heap_set_ne hxc, heap_set_ne hxc]; exact h.xc
  · rw [heap_set hp1]; rfl
  · rw [heap_set_ne hmp, heap_set_ne hmp]

theorem BSt.appK {rc mb xc pc n0 k : Nat} {x : Ix} {kv iv kv' : Value} {w w' : World} {o : Obj} {key : ByteArray} (h : BSt rc mb xc pc n0 k x kv iv w) (ho : OwnS n0 kv' (x.K ++ [key]) w') (hg : (w.alloc o).grownBy w' kv.ownBlock)
    (hat : kv'.ownBlock = kv.ownBlock ∨ ∃ b, kv'.ownBlock = some b ∧ w.heap.size + 1 ≤ b) : BSt rc mb xc pc n0 k { x with K := x.K ++ [key] } kv' iv w' := by
  have hne : ∀ (j : Nat) (ob : Obj), w.heap[j]? = some ob → (∀ cur, ob ≠ Obj.cells cur tStr (0, 0)) → w'.heap[j]? = w.heap[j]? := fun j ob hj hn => by
    rw [hg.block j (by rw [size_alloc]; have := lt_of_heap hj; omega) (by
      intro e
      obtain ⟨cur, hc⟩ := own_heap h.ks e.symm
      rw [hj] at hc
      injection hc with hc
      exact hn _ hc)]
    exact heap_old' _ _ (lt_of_heap hj)
  obtain ⟨n, D, hn, h1, h2⟩ := h.mp
  obtain ⟨es, c, hm⟩ := mapAt h1
  refine ⟨(hne _ _ h.rc (by intro cur e; injection e with _ e; exact absurd e (by decide))).trans h.rc, (hne _ _ h.xc (by intro cur e; injection e with _ e; exact absurd e (by decide))).trans h.xc, (hne _ _ h.pc (by intro cur e; injection e with _ e; exact absurd e (by decide))).trans h.pc,
    ⟨n, D, hn, keepMap h1 (hne _ _ hm (by intro cur e; cases e)), h2⟩, ho, (World.ownsRow.alloc h.is o).kept hg h.ap.symm, h.ap.moved hat (fun j hj => by have := (World.ownsRow.lt h.is j hj).2; omega)⟩
theorem BSt.appI {rc mb xc pc n0 k : Nat} {x : Ix} {kv iv iv' : Value} {w w' : World} {o : Obj} {z : Int} (h : BSt rc mb xc pc n0 k x kv iv w) (ho : OwnI n0 iv' (x.I ++ [z]) w') (hg : (w.alloc o).grownBy w' iv.ownBlock)
    (hat : iv'.ownBlock = iv.ownBlock ∨ ∃ b, iv'.ownBlock = some b ∧ w.heap.size + 1 ≤ b) : BSt rc mb xc pc n0 k { x with I := x.I ++ [z] } kv iv' w' := by
  have hne : ∀ (j : Nat) (ob : Obj), w.heap[j]? = some ob → (∀ cur, ob ≠ Obj.cells cur tInt (0, 0)) → w'.heap[j]? = w.heap[j]? := fun j ob hj hn => by
    rw [hg.block j (by rw [size_alloc]; have := lt_of_heap hj; omega) (by
      intro e
      obtain ⟨cur, hc⟩ := own_heap h.is e.symm
      rw [hj] at hc
      injection hc with hc
      exact hn _ hc)]
    exact heap_old' _ _ (lt_of_heap hj)
  obtain ⟨n, D, hn, h1, h2⟩ := h.mp
  obtain ⟨es, c, hm⟩ := mapAt h1
  refine ⟨(hne _ _ h.rc (by intro cur e; injection e with _ e; exact absurd e (by decide))).trans h.rc, (hne _ _ h.xc (by intro cur e; injection e with _ e; exact absurd e (by decide))).trans h.xc, (hne _ _ h.pc (by intro cur e; injection e with _ e; exact absurd e (by decide))).trans h.pc,
    ⟨n, D, hn, keepMap h1 (hne _ _ hm (by intro cur e; cases e)), h2⟩, (World.ownsRow.alloc h.ks o).kept hg h.ap, ho, (h.ap.symm.moved hat (fun j hj => by have := (World.ownsRow.lt h.ks j hj).2; omega)).symm⟩
theorem BSt.next {rc mb xc pc n0 k : Nat} {x : Ix} {kv iv : Value} {w : World} (h : BSt rc mb xc pc n0 k x kv iv w) : BSt rc mb xc pc n0 (k + 1) x kv iv w := by
  obtain ⟨n, D, hn, h1, h2⟩ := h.mp
  exact { h with mp := ⟨n, D, by omega, h1, h2⟩ }

/-- An index is built. -/
def BRet (ws : List ByteArray) (w : World) (e : Ending) (w' : World) : Prop := ∃ g A bm, e = .returned (.tuple #[.agg #[.slice (some ⟨g, 0, none⟩) A.n A.n, .map (some bm)], .nilIface]) ∧ Trie g A (ksAll (ixOf ws).K (ixOf ws).I) w' ∧ Dup bm (ixOf ws).cnt w' ∧ Below w.heap.size w w'

set_option maxHeartbeats 2000000 in
set_option maxRecDepth 100000 in
theorem ixBuild_any (Ak : Option Addr) (ck : Nat) (ws : List ByteArray) (w : World) (ho : Ord ws false) (hC : Kd.string.C w Ak ws.length ws) (hl : ws.length ≤ 1000000) (hs : sumL (ixOf ws).K ≤ 4000) :
    Calls Try.prog 54 #[.slice Ak ws.length ck] w (BRet ws w) := by
  have hmm := @run_makeMap Try.prog
  have hK := ixOf_keys ho (by omega) hs
  have HO := Lib.hid ho
  have HC := Lib.hid hC
  have HK := Lib.hid hK
  have hasc : ∀ i (h : i + 1 < ws.length), ltB ws[i + 1] ws[i] = false := fun i h => by
    have h2 := ((ho.2 (i + 1) h).2.2 (by omega)).1
    rw [show i + 1 - 1 = i by omega, kAt_eq h, kAt_eq (by omega)] at h2
    exact h2
  have HASC := Lib.hid hasc
  clear ho hC hK hs hasc
  go_enter Try.func54, Try.ntmps54
  go_upto_region 2 with fail
  obtain ⟨rc, hrc⟩ : ∃ rc, rc = w.heap.size := ⟨_, rfl⟩
  obtain ⟨w1, hw1⟩ : ∃ w1, w1 = ((w.alloc (.cells #[.slice none 0 0, .map none] tIdx)).alloc (.map #[] 0)).alloc (.cells #[.slice none 0 0, .map (some (w.heap.size + 1))] tIdx) := ⟨_, rfl⟩
  have h1 : w1.heap[rc]? = some (.cells #[.slice none 0 0, .map none] tIdx (0, 0)) := by rw [hw1, hrc]; exact heap_old (heap_old (heap_new _ _) _) _
  have h2 : w1.heap[rc + 1 + 1]? = some (.cells #[.slice none 0 0, .map (some (rc + 1))] tIdx (0, 0)) := by
    have := heap_new ((w.alloc (.cells #[.slice none 0 0, .map none] tIdx)).alloc (.map #[] 0)) (.cells #[.slice none 0 0, .map (some (w.heap.size + 1))] tIdx)
    rw [size_alloc, size_alloc, ← hw1, ← hrc] at this
    exact this
  have h3 : w1.ownsMap (H := Unit) Try.prog tI32 (plainElem Try.prog tI32) (rc + 1) 0 (.map []) := by
    have h := World.ownsMap_made (H := Unit) (w.alloc (.cells #[.slice none 0 0, .map none] tIdx)) Try.prog tI32 (plainElem Try.prog tI32)
    rw [size_alloc, ← hrc] at h
    obtain ⟨es, c, hm⟩ := mapAt h
    rw [hw1]
    exact keepMap h (heap_old' _ _ (lt_of_heap hm))
  have hb1 : Below w.heap.size w w1 := by rw [hw1]; exact (((Below.refl _ _).alloc (Nat.le_refl _) _).alloc (by simp) _).alloc (by simp; omega) _
  have hs1 : w1.heap.size = rc + 3 := by rw [hw1, hrc]; simp
  have H1 := Lib.hid h1
  have H2 := Lib.hid h2
  have H3 := Lib.hid h3
  have HB1 := Lib.hid hb1
  have HS1 := Lib.hid hs1
  have HRC := Lib.hid hrc
  have HSY := Lib.hid (sorted_yes Ak ck ws w1 (Kd.C_below HC.out hb1) HASC.out)
  rw [← hrc] at hw1 ⊢
  rw [← hw1]
  clear hw1 h1 h2 h3 hb1 hs1 hrc
  go_wp2_with fail
  refine HSY.out.mono ?_
  rintro e w2 ⟨rfl, n2, hn2⟩
  have H12 : Hid (w2.heap[rc]? = some (.cells #[.slice none 0 0, .map none] tIdx (0, 0))) := Lib.hid (by rw [hn2]; exact H1.out)
  have H22 : Hid (w2.heap[rc + 1 + 1]? = some (.cells #[.slice none 0 0, .map (some (rc + 1))] tIdx (0, 0))) := Lib.hid (by rw [hn2]; exact H2.out)
  have H32 : Hid (w2.ownsMap (H := Unit) Try.prog tI32 (plainElem Try.prog tI32) (rc + 1) 0 (.map [])) := Lib.hid (keepMap H3.out (by rw [hn2]; rfl))
  have HB2 : Hid (Below w.heap.size w w2) := Lib.hid (by rw [hn2]; exact pw_below_drewN HB1.out n2)
  have HS2 : Hid (w2.heap.size = rc + 3) := Lib.hid (by rw [hn2]; exact HS1.out)
  clear hn2 H1 H2 H3 HB1 HS1 HSY
  have hmkS : ∀ W : World, (Instr.makeSlice 28 (.int .i64 0) (.int .i64 (ws.length : Int))).run Try.prog W = .ok (.slice (some ⟨W.heap.size, 0, none⟩) 0 ws.length) (W.alloc (.cells (madeCells #[.string ByteArray.empty] ws.length) tStr)) := fun W =>
    run_make_room (P := Try.prog) 28 tStr (.string ByteArray.empty) 16 Try.underlying28 (by kernel_rfl) rfl .i64 .i64 ws.length (by omega) (by omega) W
  have hmkI : ∀ W : World, (Instr.makeSlice 29 (.int .i64 0) (.int .i64 (ws.length : Int))).run Try.prog W = .ok (.slice (some ⟨W.heap.size, 0, none⟩) 0 ws.length) (W.alloc (.cells (madeCells #[.int .i64 0] ws.length) tInt)) := fun W =>
    run_make_room (P := Try.prog) 29 tInt (.int .i64 0) 8 Try.underlying29 (by kernel_rfl) rfl .i64 .i64 ws.length (by omega) (by omega) W
  go_upto_region 7 with fail
  clear hmkS hmkI
  obtain ⟨q, hq⟩ : ∃ q, q = w2.heap.size := ⟨_, rfl⟩
  obtain ⟨w3, hw3⟩ : ∃ w3, w3 = ((w2.alloc (.cells (madeCells #[.string ByteArray.empty] ws.length) tStr)).alloc (.cells (madeCells #[.int .i64 0] ws.length) tInt)).alloc (.cells #[.int .i64 0, .string ByteArray.empty] tPv) := ⟨_, rfl⟩
  have hbst : BSt rc (rc + 1) (rc + 1 + 1) (q + 1 + 1) q 0 (ixF ws 0) (.slice (some ⟨q, 0, none⟩) 0 ws.length) (.slice (some ⟨q + 1, 0, none⟩) 0 ws.length) w3 := by
    have hb : Below w2.heap.size w2 w3 := by rw [hw3]; exact (((Below.refl _ _).alloc (Nat.le_refl _) _).alloc (by simp) _).alloc (by simp; omega) _
    obtain ⟨es, c, hm⟩ := mapAt H32.out
    refine ⟨(hb.block _ (lt_of_heap H12.out)).trans H12.out, (hb.block _ (lt_of_heap H22.out)).trans H22.out, ?_, ⟨0, .map [], Nat.zero_le _, keepMap H32.out (hb.block _ (lt_of_heap hm)), ?_⟩, ?_, ?_, .inr (by simp [Value.ownBlock])⟩
    · have := heap_new ((w2.alloc (.cells (madeCells #[.string ByteArray.empty] ws.length) tStr)).alloc (.cells (madeCells #[.int .i64 0] ws.length) tInt)) (.cells #[.int .i64 0, .string ByteArray.empty] tPv)
      rw [size_alloc, size_alloc, ← hw3, ← hq] at this
      exact this
    · intro j hj
      rfl
    · rw [hw3, hq]
      exact World.ownsRow.alloc (World.ownsRow.alloc (World.ownsRow_made w2 _ ws.length (Nat.le_refl _) (by unfold maxLen; omega) (by rw [size_madeCells, Nat.mul_one])) _) _
    · have h := World.ownsRow_made (base := q) (e := tInt) (size := 1) (w2.alloc (.cells (madeCells #[.string ByteArray.empty] ws.length) tStr)) (madeCells #[.int .i64 0] ws.length) ws.length (by rw [size_alloc]; omega) (by unfold maxLen; omega) (by rw [size_madeCells, Nat.mul_one])
      rw [size_alloc, ← hq] at h
      rw [hw3]
      exact World.ownsRow.alloc h _
  have HBS := Lib.hid hbst
  have HB3 : Hid (Below w.heap.size w w3) := Lib.hid (by rw [hw3]; exact ((HB2.out.alloc HB2.out.size _).alloc (by simp; have := HB2.out.size; omega) _).alloc (by simp; have := HB2.out.size; omega) _)
  have HQ3 : Hid (q = rc + 3) := Lib.hid (by rw [hq]; exact HS2.out)
  have HQS : Hid (q + 3 ≤ w3.heap.size) := Lib.hid (by rw [hw3, hq]; simp)
  refine (show Code.wp _ _ _ _ w3 → _ from fun h => by rw [← hq]; rw [hw3] at h; exact h) ?_
  clear hw3 hbst hq H12 H22 H32 HB2 HS2
  go_upto_region 8 with fail
  go_loopw [5, 6, 8, 9, 28] (fun kv iv _ _ jv wr => ∃ k : Nat, k ≤ ws.length ∧ jv = .int .i64 k ∧ Hid (BSt rc (rc + 1) (rc + 1 + 1) (q + 1 + 1) q k (ixF ws k) kv iv wr) ∧ Hid (q + 3 ≤ wr.heap.size) ∧ Hid (Below w.heap.size w wr)) (fun _ _ _ _ jv _ => ws.length - (intOf jv).toNat)
  case atStart => exact ⟨0, Nat.zero_le _, rfl, HBS, HQS, HB3⟩
  case round =>
    obtain ⟨k, hk, rfl, HBK, HQR, HB⟩ := hrel
    by_cases hlt : k < ws.length
    · obtain ⟨ad, rfl, hx⟩ := strs_at HC.out k hlt
      have hy := (HB.out.cell (World.block_lt_of_cell? w _ hx)).trans hx
      have hli : (k : Int) < (ws.length : Int) := by omega
      have hiv := ixF_inv HO.out k (by omega)
      have HST : Hid (ixF ws (k + 1) = stepI (ixF ws k) k ws[k]) := Lib.hid (by rw [← kAt_eq hlt]; rfl)
      generalize ws[k] = key at hy HST
      obtain ⟨x, hx'⟩ : ∃ x, x = ixF ws k := ⟨_, rfl⟩
      rw [← hx'] at HST HBK hiv
      have hno : x.no ≤ k := by
        rcases Nat.eq_zero_or_pos k with h | h
        · rw [(hiv.zero h).2]; omega
        · have := (hiv.last h).2.2.2; omega
      have HIV := Lib.hid hiv
      clear hx hx' hiv
      have hp0 : wr.cell? ⟨q + 1 + 1, 0, none⟩ = some (.int .i64 (x.no : Int)) := by rw [cell_of_heap HBK.out.pc]; rfl
      have hp1 : wr.cell? ⟨q + 1 + 1, 1, none⟩ = some (.string x.wd) := by rw [cell_of_heap HBK.out.pc]; rfl
      by_cases he : key = x.wd
      · have hqe : (key.toList == x.wd.toList) = true := by rw [he]; exact beq_self_eq_true _
        have HE := Lib.hid he
        clear he
        have hx1 : wr.cell? ⟨rc + 1 + 1, 1, none⟩ = some (.map (some (rc + 1))) := by rw [cell_of_heap HBK.out.xc]; rfl
        obtain ⟨n, D, hn, hown, hD⟩ := HBK.out.mp
        have HOWN := Lib.hid hown
        have HDD := Lib.hid hD
        have HKEY : Hid (keyOf Try.prog tI32 (.int .i32 (x.no : Int)) = some (.int .i32 (x.no : Int))) := Lib.hid (keyOf_int_mk Try.underlying21 (wf_i32 (by omega) (by omega)))
        have hj32 : IntKind.i32.wrap (x.no : Int) = x.no := IntWalk.i32_in _ (by omega)
        obtain ⟨N, hN⟩ : ∃ N, N = x.cnt x.no := ⟨_, rfl⟩
        have hNb : N ≤ k := by
          rw [hN]
          rcases Nat.lt_or_ge x.no k with h | h
          · have := HIV.out.cb x.no h; omega
          · rw [HIV.out.cz x.no h]; omega
        have HN := Lib.hid hN
        have hwf : (Lit.int .i32 ((N : Int) + 1)).wf = true := wf_i32 (by omega) (by omega)
        clear hown hD hN
        go_upto_region 16 with (first
          | (at_lookup; refine wpList_lookup_own_int _ rfl _ _ tMp rfl tI32 tI32 .i32 lawI Try.underlying99 Try.underlying21 (zeroI32 _) (rc + 1) n D rfl HOWN.out _ _ rfl HKEY.out ?_; intro c hat hwc; obtain rfl := (dup_val HDD.out (by omega) hat).trans (by rw [← HN.out]); clear hat hwc)
          | (at_mapUpdate; refine wpList_mapUpdate_own _ rfl _ _ _ tMp rfl tI32 tI32 lawI Try.underlying99 _ (rc + 1) n D rfl HOWN.out (by unfold maxLen; omega) _ _ _ rfl rfl HKEY.out _ [] (plainElem_int Try.underlying21 hwf) ?_; intro w5 hown5 hgrow5))
        have hX : BSt rc (rc + 1) (rc + 1 + 1) (q + 1 + 1) q (k + 1) (ixF ws (k + 1)) u5 u6 w5 := by
          rw [HST.out, stepI, if_pos HE.out]
          have hne : ∀ j t cells, wr.heap[j]? = some (Obj.cells cells t (0, 0)) → w5.heap[j]? = wr.heap[j]? := fun j t cells h => hgrow5.block j (lt_of_heap h) (by
            intro e
            cases e
            obtain ⟨es, c, hm⟩ := mapAt HOWN.out
            rw [h] at hm
            cases hm)
          refine ⟨(hne _ _ _ HBK.out.rc).trans HBK.out.rc, (hne _ _ _ HBK.out.xc).trans HBK.out.xc, (hne _ _ _ HBK.out.pc).trans HBK.out.pc, ⟨n + 1, _, by omega, hown5, ?_⟩, own_keep HBK.out.ks (fun j hj => ?_), own_keep HBK.out.is (fun j hj => ?_), HBK.out.ap⟩
          · have := dup_bump HDD.out (World.ownsMap.isMap HOWN.out) (by omega)
            rw [← HN.out] at this
            exact this
          · obtain ⟨cur, hc⟩ := own_heap HBK.out.ks hj
            exact hne _ _ _ hc
          · obtain ⟨cur, hc⟩ := own_heap HBK.out.is hj
            exact hne _ _ _ hc
        have HX := Lib.hid hX
        have HQ5 : Hid (q + 3 ≤ w5.heap.size) := Lib.hid (Nat.le_trans HQR.out hgrow5.size)
        have HB5 : Hid (Below w.heap.size w w5) := Lib.hid (HB.out.grown hgrow5 HB.out.size (fun j hj => by cases hj; have := HRC.out; omega))
        clear hX hown5 hgrow5 HOWN HDD HKEY hp0 hp1 hx1
        go_wp2_with fail
        exact ⟨⟨k + 1, by omega, by go_num, HX, HQ5, HB5⟩, by simp [intOf]; omega⟩
      · have hqe : (key.toList == x.wd.toList) = false := by rw [beq_eq_false_iff_ne]; intro h; exact he (ba_toList h)
        have HE := Lib.hid he
        clear he
        have hf0 : wr.frozen? ⟨q + 1 + 1, 0, none⟩ = false := frozen_of_heap HBK.out.pc 0
        have hf1 : wr.frozen? ⟨q + 1 + 1, 1, none⟩ = false := frozen_of_heap HBK.out.pc 1
        have HBP := Lib.hid (HBK.out.prev (by have := HQ3.out; omega) (by have := HQ3.out; omega) k key)
        go_upto_region 14 with fail
        have HBw : Hid (Below w.heap.size w ((wr.setCell ⟨q + 1 + 1, 0, none⟩ (.int .i64 (k : Int))).setCell ⟨q + 1 + 1, 1, none⟩ (.string key))) := Lib.hid ((HB.out.setCell (p := ⟨q + 1 + 1, 0, none⟩) (by have := HQ3.out; have := HRC.out; show w.heap.size ≤ q + 1 + 1; omega) _).setCell (p := ⟨q + 1 + 1, 1, none⟩) (by have := HQ3.out; have := HRC.out; show w.heap.size ≤ q + 1 + 1; omega) _)
        have HQw : Hid (q + 3 ≤ ((wr.setCell ⟨q + 1 + 1, 0, none⟩ (.int .i64 (k : Int))).setCell ⟨q + 1 + 1, 1, none⟩ (.string key)).heap.size) := Lib.hid (by rw [size_set, size_set]; exact HQR.out)
        generalize (wr.setCell ⟨q + 1 + 1, 0, none⟩ (.int .i64 (k : Int))).setCell ⟨q + 1 + 1, 1, none⟩ (.string key) = w4 at HBP HBw HQw ⊢
        clear hp0 hp1 hf0 hf1 HBK HB HQR
        have hKl : x.K.length ≤ k := HIV.out.le
        have hIl : x.I.length ≤ k := by rw [HIV.out.len]; exact hKl
        go_upto_region 15 with (at_builtin; refine app1 (w0 := w4) q rfl _ _ 28 tStr (.string ByteArray.empty) 16 rfl Try.underlying28 (by kernel_rfl) rfl (by decide) _ (x.K.map Value.string) (.string key) w4.heap.size rfl rfl (cell_new0 _ _ _) rfl (World.ownsRow.alloc HBP.out.ks _) ((Below.refl _ _).alloc (by have := HQw.out; omega) _) (by have := HQw.out; simp; omega) (by rw [List.length_map]; omega) ?_)
        intro v5 w5 hown5 hb5 hgr5 hat5
        have HB5 := Lib.hid (HBP.out.appK (kv' := v5) (w' := w5) (key := key) (by unfold OwnS; simpa using hown5) hgr5 hat5)
        have HBw5 : Hid (Below w.heap.size w w5) := Lib.hid (HBw.out.trans (hb5.mono (by have := HQ3.out; have := HRC.out; omega)))
        have HQw5 : Hid (q + 3 ≤ w5.heap.size) := Lib.hid (Nat.le_trans HQw.out hb5.size)
        clear hown5 hb5 hgr5 hat5
        go_upto_region 16 with (at_builtin; refine app1 (w0 := w5) q rfl _ _ 29 tInt (.int .i64 0) 8 rfl Try.underlying29 (by kernel_rfl) rfl (by decide) _ (x.I.map (Value.int .i64)) (.int .i64 (k : Int)) w5.heap.size rfl rfl (cell_new0 _ _ _) rfl (World.ownsRow.alloc HB5.out.is _) ((Below.refl _ _).alloc (by have := HQw5.out; omega) _) (by have := HQw5.out; simp; omega) (by rw [List.length_map]; omega) ?_)
        intro v6 w6 hown6 hb6 hgr6 hat6
        have HX : Hid (BSt rc (rc + 1) (rc + 1 + 1) (q + 1 + 1) q (k + 1) (ixF ws (k + 1)) v5 v6 w6) := Lib.hid (by
          rw [HST.out, stepI, if_neg HE.out]
          exact (HB5.out.appI (iv' := v6) (w' := w6) (z := (k : Int)) (by unfold OwnI; simpa using hown6) hgr6 hat6).next)
        have HBw6 : Hid (Below w.heap.size w w6) := Lib.hid (HBw5.out.trans (hb6.mono (by have := HQ3.out; have := HRC.out; omega)))
        have HQw6 : Hid (q + 3 ≤ w6.heap.size) := Lib.hid (Nat.le_trans HQw5.out hb6.size)
        clear hown6 hb6 hgr6 hat6
        go_wp2_with fail
        exact ⟨⟨k + 1, by omega, by go_num, HX, HQw6, HBw6⟩, by simp [intOf]; omega⟩
    · obtain rfl : k = ws.length := by omega
      have hxk : ixF ws ws.length = ixOf ws := rfl
      rw [hxk] at HBK
      have hK1 := HK.out.ne
      have hKp : 0 < (ixOf ws).K.length := List.length_pos_iff.2 hK1
      have hil := HK.out.il
      obtain ⟨kb, c1, hkv, -, hkbl⟩ := HBK.out.ks.form (by rw [List.length_map]; exact hKp)
      obtain ⟨ib, c2, hiv, -, hibl⟩ := HBK.out.is.form (by rw [List.length_map, hil]; exact hKp)
      rw [List.length_map] at hkv hiv
      subst hkv hiv
      obtain ⟨A1', c1', e1, hC1⟩ := HBK.out.ks.reads rfl
      injection e1 with e1 _ ec
      subst e1 ec
      obtain ⟨A2', c2', e2, hC2⟩ := HBK.out.is.reads rfl
      injection e2 with e2 _ ec
      subst e2 ec
      have HBB := Lib.hid (build_any kb ib c1 c2 (ixOf ws).K (ixOf ws).I wr HK.out hC1 hC2)
      have HIL := Lib.hid hil
      clear hC1 hC2 hK1 hKp hil hkbl hibl hxk
      go_wp2_with fail
      refine HBB.out.mono ?_
      rintro e w5 ⟨g, A, rfl, ht, hg, hb5⟩
      have HT := Lib.hid ht
      have HB5 := Lib.hid (HBK.out.below hb5)
      have HBw5 : Hid (Below w.heap.size w w5) := Lib.hid (HB.out.trans (hb5.mono HB.out.size))
      have hx0 : w5.cell? ⟨rc + 1 + 1, 0, none⟩ = some (.slice none 0 0) := by rw [cell_of_heap HB5.out.xc]; rfl
      have hf0 : w5.frozen? ⟨rc + 1 + 1, 0, none⟩ = false := frozen_of_heap HB5.out.xc 0
      clear ht hg hb5 HBB
      go_upto_region 21 with fail
      obtain ⟨w6, hw6⟩ : ∃ w6, w6 = w5.setCell ⟨rc + 1 + 1, 0, none⟩ (.slice (some ⟨g, 0, none⟩) A.n A.n) := ⟨_, rfl⟩
      have hx6 : w6.heap[rc + 1 + 1]? = some (.cells #[.slice (some ⟨g, 0, none⟩) A.n A.n, .map (some (rc + 1))] tIdx (0, 0)) := by rw [hw6, heap_set HB5.out.xc]; rfl
      have hr6 : w6.heap[rc]? = some (.cells #[.slice none 0 0, .map none] tIdx (0, 0)) := by rw [hw6, heap_set_ne (by omega)]; exact HB5.out.rc
      have ht6 : Trie g A (ksAll (ixOf ws).K (ixOf ws).I) w6 := { HT.out with arr := by rw [hw6, heap_set_ne (typ_ne HT.out.arr HB5.out.xc (by decide))]; exact HT.out.arr }
      have hd6 : Dup (rc + 1) (ixOf ws).cnt w6 := (HB5.out.dup (by omega)).keep (by rw [hw6, heap_set_ne (by omega)])
      have hb6 : Below w.heap.size w w6 := by rw [hw6]; exact HBw5.out.setCell (p := ⟨rc + 1 + 1, 0, none⟩) (by have := HRC.out; show w.heap.size ≤ rc + 1 + 1; omega) _
      rw [← hw6]
      have hc0 : w6.cell? ⟨rc + 1 + 1, 0, none⟩ = some (.slice (some ⟨g, 0, none⟩) A.n A.n) := by rw [cell_of_heap hx6]; rfl
      have hc1 : w6.cell? ⟨rc + 1 + 1, 1, none⟩ = some (.map (some (rc + 1))) := by rw [cell_of_heap hx6]; rfl
      have hd0 : w6.cell? ⟨rc, 0, none⟩ = some (.slice none 0 0) := by rw [cell_of_heap hr6]; rfl
      have hd1 : w6.cell? ⟨rc, 1, none⟩ = some (.map none) := by rw [cell_of_heap hr6]; rfl
      have hg0 : w6.frozen? ⟨rc, 0, none⟩ = false := frozen_of_heap hr6 0
      have hg1 : w6.frozen? ⟨rc, 1, none⟩ = false := frozen_of_heap hr6 1
      have HX6 := Lib.hid hx6
      have HR6 := Lib.hid hr6
      have HT6 := Lib.hid ht6
      have HD6 := Lib.hid hd6
      have HB6 := Lib.hid hb6
      clear hw6 hx6 hr6 ht6 hd6 hb6 hx0 hf0 HB5 HT HBw5
      go_wp2_with fail
      have hr7 : (w6.setCell ⟨rc, 0, none⟩ (.slice (some ⟨g, 0, none⟩) A.n A.n)).heap[rc]? = some (.cells #[.slice (some ⟨g, 0, none⟩) A.n A.n, .map none] tIdx (0, 0)) := by rw [heap_set HR6.out]; rfl
      have hr8 : ((w6.setCell ⟨rc, 0, none⟩ (.slice (some ⟨g, 0, none⟩) A.n A.n)).setCell ⟨rc, 1, none⟩ (.map (some (rc + 1)))).heap[rc]? = some (.cells #[.slice (some ⟨g, 0, none⟩) A.n A.n, .map (some (rc + 1))] tIdx (0, 0)) := by rw [heap_set hr7]; rfl
      have hgn : g ≠ rc := typ_ne HT6.out.arr HR6.out (by decide)
      have ht8 : Trie g A (ksAll (ixOf ws).K (ixOf ws).I) ((w6.setCell ⟨rc, 0, none⟩ (.slice (some ⟨g, 0, none⟩) A.n A.n)).setCell ⟨rc, 1, none⟩ (.map (some (rc + 1)))) := { HT6.out with arr := by rw [heap_set_ne hgn, heap_set_ne hgn]; exact HT6.out.arr }
      have hd8 := HD6.out.keep (w' := (w6.setCell ⟨rc, 0, none⟩ (.slice (some ⟨g, 0, none⟩) A.n A.n)).setCell ⟨rc, 1, none⟩ (.map (some (rc + 1)))) (by rw [heap_set_ne (by omega), heap_set_ne (by omega)])
      have hb8 := (HB6.out.setCell (p := ⟨rc, 0, none⟩) (by have := HRC.out; show w.heap.size ≤ rc; omega) (.slice (some ⟨g, 0, none⟩) A.n A.n)).setCell (p := ⟨rc, 1, none⟩) (by have := HRC.out; show w.heap.size ≤ rc; omega) (.map (some (rc + 1)))
      have g0 : ((w6.setCell ⟨rc, 0, none⟩ (.slice (some ⟨g, 0, none⟩) A.n A.n)).setCell ⟨rc, 1, none⟩ (.map (some (rc + 1)))).cell? ⟨rc, 0, none⟩ = some (.slice (some ⟨g, 0, none⟩) A.n A.n) := by rw [cell_of_heap hr8]; rfl
      have g1 : ((w6.setCell ⟨rc, 0, none⟩ (.slice (some ⟨g, 0, none⟩) A.n A.n)).setCell ⟨rc, 1, none⟩ (.map (some (rc + 1)))).cell? ⟨rc, 1, none⟩ = some (.map (some (rc + 1))) := by rw [cell_of_heap hr8]; rfl
      generalize (w6.setCell ⟨rc, 0, none⟩ (.slice (some ⟨g, 0, none⟩) A.n A.n)).setCell ⟨rc, 1, none⟩ (.map (some (rc + 1))) = w8 at ht8 hd8 hb8 g0 g1 ⊢
      clear hr7 hr8
      exact bodyPost_ret (v := .tuple #[.agg #[.slice (some ⟨g, 0, none⟩) A.n A.n, .map (some (rc + 1))], .nilIface]) (by simp [results, Try.results54, go_sem, g0, g1]) rfl ⟨g, A, rc + 1, rfl, ht8, hd8, hb8⟩
end Go.Proofs.Ytjifoimkjgepcaa.Da
