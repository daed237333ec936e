/-
  builder.parseUnkDef: walked, for records that are right.
-/
import Derived.Test.YteoljiclmhmbnaaDoorUkC
import Derived.Deep.RegionLaw
import Derived.BigRegion
import Derived.Deep.RegionHeld3
import Derived.Deep.DeepCutAuto
set_option linter.unusedVariables false
set_option linter.unusedSimpArgs false
namespace Go.Proofs.YteoljiclmhmbnaaDoor.Tx
open Go Go.RowKit Go.Proofs.YteoljiclmhmbnaaDoor.K Go.Proofs.YteoljiclmhmbnaaDoorW.PrintWords Go.Proofs.YteoljiclmhmbnaaDoor.Mi Go.Maps

theorem strC_hold {w w1 : World} {a : Addr} {n : Nat} {xs : List ByteArray} (h : Kd.string.C w (some a) n xs) (hb : w1.heap[a.block]? = w.heap[a.block]?) : Kd.string.C w1 (some a) n xs := by
  refine ⟨h.1, h.2.1, fun hp => ?_⟩
  obtain ⟨ad, hA, hc⟩ := h.2.2 hp
  cases hA
  refine ⟨a, rfl, fun j p hj => ?_⟩
  obtain ⟨c, h1, h2, h3⟩ := hc j p hj
  refine ⟨c, h1, h2, fun i u hu => ?_⟩
  rw [← h3 i u hu]
  have e : (a.add (j * Kd.string.sz + i)).block = a.block := by unfold Addr.add; split <;> rfl
  unfold World.cell?
  rw [e, hb]
/-- Rows of one's own, opened. -/
structure RowsAt (g cap : Nat) (inner : List Value) (base : Nat) (ok : Nat → Prop) (xs : List (List ByteArray)) (w : World) : Prop where
  hg : base ≤ g ∧ g < w.heap.size ∧ ok g
  len : inner.length = xs.length
  cell : ∀ j, j < xs.length → w.cell? ⟨g, j, none⟩ = inner[j]?
  row : ∀ j (hj : j < xs.length), ∃ ab c, inner[j]? = some (.slice (some ⟨ab, 0, none⟩) xs[j].length c) ∧ ok ab ∧ ab < w.heap.size ∧ xs[j].length ≤ c ∧ Kd.string.C w (some ⟨ab, 0, none⟩) xs[j].length xs[j]
theorem rows_shape {w : World} {base : Nat} {ok : Nat → Prop} {v : Value} {xs : List (List ByteArray)} (hpos : 0 < xs.length) (h : kRow.R tRc w base ok v xs) (hne : ∀ r ∈ xs, 0 < r.length) :
    ∃ g cap inner, v = .slice (some ⟨g, 0, none⟩) xs.length cap ∧ RowsAt g cap inner base ok xs w := by
  obtain ⟨h0, inner, ho, hr⟩ := h
  have e1 : kRow.sz = 1 := rfl
  have hil : inner.length = xs.length := by rw [hr.1, e1, Nat.mul_one]
  rcases ho.2 with ⟨_, hn⟩ | ⟨g, cap, cur, rfl, hb, hh, h1, h2, h3, h4⟩
  · omega
  refine ⟨g, cap, inner, rfl, ⟨hb, lt_of_heap hh, h0 g rfl⟩, hil, fun j hj => ?_, fun j hj => ?_⟩
  · rw [cell_of_heap hh]
    rw [e1, Nat.mul_one] at h4
    rw [← h4, List.getElem?_take_of_lt hj, Array.getElem?_toList]
  · have hj' : j < inner.length := by omega
    have hm := hr.2 j _ (List.getElem?_eq_getElem hj)
    rw [e1, Nat.mul_one] at hm
    have e2 : (inner.drop j).take 1 = [inner[j]] := by
      rw [List.take_one, List.head?_drop, List.getElem?_eq_getElem hj']
      rfl
    rw [e2] at hm
    obtain ⟨v, hv, hR⟩ := hm
    obtain rfl : inner[j] = v := by simpa using hv
    have hl := hne _ (List.getElem_mem hj)
    obtain ⟨A, c, hev, hlc, hC⟩ := Kd.R_reads hR
    obtain ⟨a, rfl, hcell⟩ := strs_at hC 0 hl
    have hz : a.add 0 = a := by unfold Addr.add; simp
    rw [hz] at hcell
    obtain ⟨hk, _, ⟨hl2, hrow⟩, _⟩ := hR
    rcases hrow with ⟨he, _⟩ | ⟨g', cap', cur', he, _⟩
    · rw [he] at hev; cases hev
    · have hev0 := hev
      rw [he] at hev
      injection hev with hev
      injection hev with hev
      subst hev
      exact ⟨g', c, by rw [List.getElem?_eq_getElem hj', hev0], (hk g' (by rw [he]; rfl)).1, World.block_lt_of_cell? _ _ hcell, hlc, hC⟩
theorem cells_drew (w : World) (cs : Array Value) (e : TypeId) (j : Nat) : ((w.alloc (.cells cs e)).drew).cell? ⟨w.heap.size, j, none⟩ = cs[j]? := cell_of_heap (heap_new w _) j
theorem size_drew_alloc (w : World) (o : Obj) : ((w.alloc o).drew).heap.size = w.heap.size + 1 := size_alloc w o
theorem nodup_inj {α : Type} {l : List α} (h : l.Nodup) {i j : Nat} {hi : i < l.length} {hj : j < l.length} (e : l[i] = l[j]) : i = j := by
  unfold List.Nodup at h
  rw [List.pairwise_iff_getElem] at h
  rcases Nat.lt_trichotomy i j with h1 | h1 | h1
  · exact absurd e (h i j hi hj h1)
  · exact h1
  · exact absurd e.symm (h j i hj hi h1)
/-- Behind the append of the contents. -/
theorem fin39 {T : List Un} {B m1 m2 m3 p k : Nat} {wA wB w11 : World} {A9 A8 : Option Addr} {c9 c8 : Nat} {ms : List Mo} {cs : List Value} {x : Value} {v11 : Value} {o : Obj}
    (hrow : wB.heap[p]? = some (.cells #[.slice A9 (k + 1) c9, .map (some m1), .map (some m2), .map (some m3), .slice A8 k c8] tUnk (0, 0)))
    (hRM : kMo.R 171 wB B (fun q => q ≠ p) (.slice A9 (k + 1) c9) ms) (hRC : kV.R 29 wB B (fun q => q ≠ p) (.slice A8 k c8) cs) (hME : MidR T B m1 m2 m3 k wA wB)
    (hR : kV.R 29 w11 B (fun q => q ≠ p) v11 (cs ++ [x])) (hB : Below B wB w11) (hg : ((wB.alloc o).drew).grownBy w11 (Value.slice A8 k c8).ownBlock) :
    ∃ A11 c11, v11 = .slice A11 (cs.length + 1) c11 ∧ w11.heap[p]? = some (.cells #[.slice A9 (k + 1) c9, .map (some m1), .map (some m2), .map (some m3), .slice A8 k c8] tUnk (0, 0)) ∧
      w11.cell? ⟨p, 4, none⟩ = some (.slice A8 k c8) ∧ w11.frozen? ⟨p, 4, none⟩ = false ∧ kMo.R 171 w11 B (fun q => q ≠ p) (.slice A9 (k + 1) c9) ms ∧ MidR T B m1 m2 m3 k wA w11 := by
  have hbx : Below wB.heap.size wB ((wB.alloc o).drew) := below_drew ((Below.refl _ wB).alloc (Nat.le_refl _) _)
  have hpl := lt_of_heap hrow
  have hzx : wB.heap.size ≤ ((wB.alloc o).drew).heap.size := hbx.size
  have hrow11 := (hg.block p (by omega) (fun e => hRC.1 p e.symm rfl)).trans ((hbx.block p hpl).trans hrow)
  obtain ⟨A11, c11, hv⟩ := Kd.R_slice hR
  refine ⟨A11, c11, by rw [hv, List.length_append]; rfl, hrow11, by rw [cell_of_heap hrow11]; rfl, frozen_of_heap hrow11 4, Kd.R_over (Kd.R_below hRM hbx) (Kd.R_below hRC hbx) (show ∀ q, q ∈ [171] → q ≠ 29 by decide) hg, ⟨hME.hb.trans hB, fun m hm hc => ?_⟩⟩
  obtain ⟨es, cl, h1, h2⟩ := hME.ms m hm hc
  have h3 := (hbx.block m (lt_of_heap h2)).trans h2
  refine ⟨es, cl, h1, (hg.block m (lt_of_heap h3) (fun e => ?_)).trans h3⟩
  obtain ⟨cur, hh⟩ := own_heap (Kd.R_own (Kd.R_below hRC hbx)).choose_spec e.symm
  rw [h3] at hh
  cases hh
/-- Behind the append: what is known. -/
structure Out39 (T : List Un) (B m1 m2 m3 p k : Nat) (wA wB w11 : World) (A9 : Option Addr) (c9 : Nat) (A8 : Option Addr) (c8 : Nat) (A11 : Option Addr) (c11 : Nat) (ms : List Mo) (cs : List Value) : Prop where
  row : w11.heap[p]? = some (.cells #[.slice A9 (k + 1) c9, .map (some m1), .map (some m2), .map (some m3), .slice A8 k c8] tUnk (0, 0))
  mo : kMo.R 171 w11 B (fun q => q ≠ p) (.slice A9 (k + 1) c9) ms
  co : kV.R 29 w11 B (fun q => q ≠ p) (.slice A11 (k + 1) c11) cs
  me : MidR T B m1 m2 m3 k wA w11
theorem app39 {T : List Un} {B m1 m2 m3 p k : Nat} {wA wB : World} {A9 A8 : Option Addr} {c9 c8 : Nat} {ms : List Mo} {cs : List Value} (x : Value) (hx1 : x.oneCell' = true)
    {ops : Array Oper} {o : Oper} {a : Act} {Q : Exit → Act → World → Prop} {K : Act → World → Prop} (hw : Region.wanted o (yielded ops a.tmps) = true) (s y : Operand)
    (ho : o.op = .call { callee := .builtin .append, args := #[s, y], argTypes := #[120, 120] })
    (hrow : Hid (wB.heap[p]? = some (.cells #[.slice A9 (k + 1) c9, .map (some m1), .map (some m2), .map (some m3), .slice A8 k c8] tUnk (0, 0))))
    (hRM : Hid (kMo.R 171 wB B (fun q => q ≠ p) (.slice A9 (k + 1) c9) ms)) (hRC : Hid (kV.R 29 wB B (fun q => q ≠ p) (.slice A8 k c8) cs)) (hME : Hid (MidR T B m1 m2 m3 k wA wB))
    (hcs : Hid (cs.length = k)) (hk : k ≤ 100000) (hB : B ≤ wB.heap.size) (hs : a.eval s = .slice A8 k c8) (hx : a.eval y = .slice (some ⟨wB.heap.size, 0, none⟩) 1 1)
    (h : ∀ A11 c11 w11, Hid (Out39 T B m1 m2 m3 p k wA wB w11 A9 c9 A8 c8 A11 c11 ms (cs ++ [x])) → w11.cell? ⟨p, 4, none⟩ = some (.slice A8 k c8) → w11.frozen? ⟨p, 4, none⟩ = false → K (a.put o.dst (.slice A11 (k + 1) c11)) w11) :
    if Region.wanted o (yielded ops a.tmps) = true then Oper.wp Tryd.prog o a ((wB.alloc (.cells #[x] 29)).drew) K Q else K (a.put o.dst undef) ((wB.alloc (.cells #[x] 29)).drew) := by
  have hzz : (cs.length + 1) * 24 ≤ 140737488355328 := by rw [hcs.out]; omega
  refine kapp_step (w0 := wB) kV B hw s y 120 29 (.slice none 0 0) 24 ho Tryd.underlying120 strs_info rfl (by decide) (by decide) (.slice A8 k c8) cs x [x] (fun q => q ≠ p) (fun _ => False) wB.heap.size hs hx
    (by intro q z hz; rw [cells_drew]; simpa using hz) ⟨rfl, hx1⟩ (fun _ h => h.elim) (by intro q hq; have := lt_of_heap hrow.out; rw [size_drew_alloc] at hq; omega) (Kd.R_below (Kd.R_alloc hRC.out _) (below_drew (Below.refl _ _))) (below_drew ((Below.refl _ _).alloc (by omega) _)) (by rw [size_drew_alloc]; omega) hzz ?_
  intro v11 w11 hR11 hB11 hg11
  obtain ⟨A11, c11, rfl, h1, h2, h3, h4, h5⟩ := fin39 (p := p) hrow.out hRM.out hRC.out hME.out hR11 hB11 hg11
  have e := hcs.out
  rw [e] at hR11 ⊢
  exact h A11 c11 w11 (Lib.hid ⟨h1, h4, hR11, h5⟩) h2 h3
/-- An entry's class's name. -/
def nameU (ns : List ByteArray) (u : Un) : List UInt8 := (ns.getD u.1.toNat default).data.toList
theorem hd0_row (ns : List ByteArray) (u : Un) : hd0 (rowU ns u) = nameU ns u := rfl
theorem row_len {ns : List ByteArray} {u : Un} (h : OkU ns u) : (rowU ns u).length = 6 := by simp [rowU, h.n]
def tailU (u : Un) : List ByteArray := u.2.2.2.2

/-- The dictionary of unknown words that has been made. -/
theorem add_lt (ad : Addr) (i : Nat) (h : 0 < i) : ad.add i = ⟨ad.block, ad.off + i, none⟩ := by
  unfold Addr.add
  rw [if_neg (by omega)]
theorem rowU_cells {w : World} {ab : Nat} {ns : List ByteArray} {u : Un} (h : Kd.string.C w (some ⟨ab, 0, none⟩) (rowU ns u).length (rowU ns u)) :
    w.cell? ⟨ab, 0, none⟩ = some (.string (ns.getD u.1.toNat default)) ∧ w.cell? ⟨ab, 1, none⟩ = some (.string (ofL (Lib.itoa u.2.1))) ∧
    w.cell? ⟨ab, 2, none⟩ = some (.string (ofL (Lib.itoa u.2.2.1))) ∧ w.cell? ⟨ab, 3, none⟩ = some (.string (ofL (Lib.itoa u.2.2.2.1))) := by
  have hl : 4 ≤ (rowU ns u).length := by simp [rowU]
  obtain ⟨ad, ha, h0⟩ := strs_at h 0 (by omega)
  cases ha
  obtain ⟨ad, ha, h1⟩ := strs_at h 1 (by omega)
  cases ha
  obtain ⟨ad, ha, h2⟩ := strs_at h 2 (by omega)
  cases ha
  obtain ⟨ad, ha, h3⟩ := strs_at h 3 (by omega)
  cases ha
  rw [add_plain] at h0 h1 h2 h3
  exact ⟨h0, h1, h2, h3⟩

/-- The dictionary of unknown words that has been made. -/
structure UnkD (S : List Un) (p : Nat) (w : World) : Prop where
  ex : ∃ m1 m2 m3 D1 D2 A1 c1 A2 c2, w.heap[p]? = some (.cells #[.slice A1 S.length c1, .map (some m1), .map (some m2), .map (some m3), .slice A2 S.length c2] tUnk (0, 0)) ∧
    kMo.C w A1 S.length (S.map moU) ∧ kRow.C w A2 S.length (S.map tailU) ∧ S.length ≤ c1 ∧ S.length ≤ c2 ∧
    MapI m1 (idxF (S.map clsU)) S.length D1 w ∧ MapI m2 (dupF (S.map clsU)) S.length D2 w ∧ w.ownsMap Tryd.prog tS (plainElem Tryd.prog tI8) m3 2 (D3 true true)

theorem Out39.done {T : List Un} {inner : List Value} {B m1 m2 m3 p k : Nat} {w3 wA wB w11 : World} {A9 A8 A11 : Option Addr} {c9 c8 c11 : Nat} {ms : List Mo} {cs : List Value} (h : Out39 T B m1 m2 m3 p k wA wB w11 A9 c9 A8 c8 A11 c11 ms cs) (hP : PMid T inner B w3 p m1 m2 m3 k wA)
    (hms : ms = (T.take (k + 1)).map moU) (hcs : cs = (inner.take (k + 1)).map tailV) : PSt T inner B w3 p m1 m2 m3 (k + 1) (w11.setCell ⟨p, 4, none⟩ (.slice A11 (k + 1) c11)) := by
  obtain ⟨D1, h1⟩ := hP.ix
  obtain ⟨D2, h2⟩ := hP.du
  have key : ∀ m, m = m1 ∨ m = m2 ∨ m = m3 → (∃ es cl, wA.heap[m]? = some (.map es cl)) → (w11.setCell ⟨p, 4, none⟩ (.slice A11 (k + 1) c11)).heap[m]? = wA.heap[m]? := fun m hm hc => by
    obtain ⟨es, cl, e1, e2⟩ := h.me.ms m hm hc
    rw [heap_set_ne (fun e => ?_), e1, e2]
    rw [e, h.row] at e2
    cases e2
  refine ⟨(hP.hb.trans h.me.hb).setCell (p := ⟨p, 4, none⟩) hP.hB.1 _, hP.hB, hP.n12, hP.n13, hP.n23, ⟨D1, h1.keep (key m1 (.inl rfl) (mapAt h1))⟩, ⟨D2, h2.keep (key m2 (.inr (.inl rfl)) (mapAt h2))⟩, ?_, ⟨.slice A9 (k + 1) c9, .slice A11 (k + 1) c11, ?_, ?_, ?_⟩⟩
  · obtain ⟨es, cl, hx, r⟩ := hP.me
    exact ⟨es, cl, (key m3 (.inr (.inr rfl)) ⟨es, cl, hx⟩).trans hx, r⟩
  · rw [heap_set h.row]
    rfl
  · rw [← hms]
    exact Kd.R_far h.mo (p := ⟨p, 4, none⟩) (fun q hq => hq) _
  · rw [← hcs]
    exact Kd.R_far h.co (p := ⟨p, 4, none⟩) (fun q hq => hq) _
theorem PSt.fin {T : List Un} {ns : List ByteArray} {inner : List Value} {B m1 m2 m3 p g cap base : Nat} {ok : Nat → Prop} {w3 wr : World} (h : PSt T inner B w3 p m1 m2 m3 T.length wr) (hra : RowsAt g cap inner base ok (T.map (rowU ns)) w3) (hlow : ∀ k, ok k → k < B)
    (hok : ∀ u ∈ T, OkU ns u) : UnkD T p wr := by
  obtain ⟨D1, h1⟩ := h.ix
  obtain ⟨D2, h2⟩ := h.du
  obtain ⟨vM, vC, r1, r2, r3⟩ := h.row
  have hil : inner.length = T.length := by rw [hra.len, List.length_map]
  rw [List.take_length] at r2 h1 h2
  rw [← hil, List.take_length] at r3
  obtain ⟨A1, c1, rfl, hl1, hC1⟩ := Kd.R_reads r2
  obtain ⟨A2, c2, rfl, hl2, hC2⟩ := Kd.R_reads r3
  rw [List.length_map] at hl1 hC1 r1
  rw [List.length_map, hil] at hl2 hC2
  rw [List.length_map, hil] at r1
  refine ⟨m1, m2, m3, D1, D2, A1, c1, A2, c2, r1, hC1, ⟨by simp, hC2.2.1, fun hp => ?_⟩, hl1, hl2, h1, h2, h.me⟩
  obtain ⟨ad, hA, hc⟩ := hC2.2.2 hp
  refine ⟨ad, hA, fun j x hj => ?_⟩
  rw [List.getElem?_map, Option.map_eq_some_iff] at hj
  obtain ⟨u, hu, rfl⟩ := hj
  have hjT : j < T.length := (List.getElem?_eq_some_iff.1 hu).1
  have hjm : j < (T.map (rowU ns)).length := by rw [List.length_map]; exact hjT
  have hue : T[j] = u := by rw [List.getElem?_eq_getElem hjT] at hu; exact Option.some.inj hu
  obtain ⟨ab, c6, hin, hoka, _, hc6, hCa⟩ := hra.row j hjm
  rw [List.getElem_map, hue] at hin hc6 hCa
  have hou := hok u (by rw [← hue]; exact List.getElem_mem _)
  have hl6 := row_len hou
  obtain ⟨cs, hl, hk, hcell⟩ := hc j (tailV (.slice (some ⟨ab, 0, none⟩) (rowU ns u).length c6)) (by rw [List.getElem?_map, hin]; rfl)
  refine ⟨cs, hl, ?_, hcell⟩
  have hCr := strC_hold hCa (h.hb.block ab (hlow _ hoka))
  have hd := Kd.C_drop (m := 4) (c := c6) hCr (by omega) hc6
  rw [if_neg (by omega)] at hd
  have e1 : (rowU ns u).drop 4 = tailU u := rfl
  have e2 : (rowU ns u).length - 4 = (tailU u).length := by rw [← e1, List.length_drop]
  rw [e1] at hd
  refine ⟨_, c6 - 4, ?_, by rw [← e2]; omega, hd⟩
  rw [hk.1, ← e2]
  rfl
set_option maxHeartbeats 2000000 in
set_option maxRecDepth 5000 in
theorem parseU_any (ns : List ByteArray) (hnd : ns.Nodup) (us : List Un) (hpos : 0 < us.length) (hlen : us.length ≤ 100000) (hns : ns.length ≤ 100000) (hok : ∀ u ∈ us, OkU ns u) (A B : Option Addr) (c cc pi : Nat) (fr : Nat × Nat) (w : World) (base : Nat) (ok : Nat → Prop)
    (hR : kRow.R tRc w base ok (.slice A us.length c) (us.map (rowU ns))) (hbase : base ≤ w.heap.size) (hB : Kd.string.C w B ns.length ns) (hBo : ∀ a, B = some a → a.block < base) (hI : w.heap[pi]? = some (.cells infoCells tInfo fr)) :
    Calls Tryd.prog 74 #[.slice A us.length c, .pointer (some ⟨pi, 0, none⟩), .slice B ns.length cc] w fun e w' =>
      ∃ p, e = .returned (.tuple #[ptr p 0, .nilIface]) ∧ UnkD (sortK (nameU ns) us) p w' ∧ base ≤ p ∧ Below base w w' := by
  have hml : (us.map (rowU ns)).length = us.length := List.length_map _
  have h6 : ∀ r ∈ us.map (rowU ns), r.length = 6 := fun r hr => by
    obtain ⟨u, hu, rfl⟩ := List.mem_map.1 hr
    exact row_len (hok u hu)
  obtain ⟨bd, hbd⟩ : ∃ bd, B = some bd := by
    have hn : 0 < ns.length := by
      have := (hok _ (List.getElem_mem hpos)).c
      omega
    obtain ⟨a, ha, _⟩ := hB.2.2 hn
    exact ⟨a, ha⟩
  subst hbd
  have hRb := Kd.R_bound hR
  obtain ⟨A0, c0, hv0, hlc0, hC0⟩ := Kd.R_reads hRb
  rw [hml] at hv0 hlc0 hC0
  cases hv0
  have HC : Hid (kRow.C w A (us.map (rowU ns)).length (us.map (rowU ns))) := Lib.hid (by rw [hml]; exact hC0)
  have HI := Lib.hid hI
  have HX := Lib.hid h6
  have HR := Lib.hid hRb
  have HOK := Lib.hid hok
  have HND := Lib.hid hnd
  have HB := Lib.hid hB
  have HML := Lib.hid hml
  have HBO := Lib.hid hBo
  have HBA := Lib.hid hbase
  have hi0 : w.cell? ⟨pi, 0, none⟩ = some (.int .i64 6) := by rw [cell_of_heap hI]; rfl
  obtain ⟨N, hN⟩ : ∃ N, us.length = N := ⟨_, rfl⟩
  have HN := Lib.hid hN
  rw [hN] at hpos hlen ⊢
  have HOB := Lib.hid (own_lt (Kd.R_own hR).choose_spec)
  have HOE := Lib.hid (own_base (Kd.R_own hR).choose_spec)
  rw [hN] at HOB HOE
  rw [hN] at HR
  clear hC0 hI h6 hR hRb hok hB hml hN hlc0 hnd hBo hbase
  obtain ⟨T, hT⟩ : ∃ T, T = sortK (nameU ns) us := ⟨_, rfl⟩
  rw [← hT]
  have HT := Lib.hid hT
  clear hT
  go_enter Tryd.func74, Tryd.ntmps74
  go_wp2_with fail
  refine (show Calls Tryd.prog _ #[.slice A N c, .int .i64 6] w _ from by have := check_any A c (us.map (rowU ns)) 6 (by decide) w HC.out; rw [HML.out, HN.out] at this; exact this).mono ?_
  rintro e w1 ⟨⟨_, rfl⟩ | ⟨⟨r, hr, hne⟩, _⟩, hb1⟩
  rotate_left
  · exact absurd (HX.out r hr) hne
  have HI1 := Lib.hid ((hb1.block pi (lt_of_heap HI.out)).trans HI.out)
  have HR1 := Lib.hid (Kd.R_below HR.out hb1)
  go_upto_region 4 with fail
  refine start_at fun a0 ha0 => ?_
  have s0 : a0.tmps.size = 173 := by rw [ha0]; rfl
  have e1 : a0.eval (.tmp 1) = ptr pi 0 := by rw [ha0]; rfl
  have HA := Lib.hid ha0
  have HB1 := Lib.hid hb1
  have hzw := hb1.size
  clear ha0 hi0 hb1
  refine Ri.region_rule (by kernel_rfl) (by kernel_rfl) (fun l a w2 => ∃ m1 m2 m3 p, a = pt l pi m1 m2 m3 p a0 ∧ Hid (HeadL l m1 m2 m3 p w1 w2)) ?_ ?_ ?_
  · exact ⟨0, 0, 0, 0, rfl, Lib.hid ⟨⟨pw_below_drewN (Below.refl _ _) 1, (fun h => by cases h), (fun h => by cases h), (fun h => by cases h), (fun h => by cases h), (fun h => by cases h), (fun h => by cases h), (fun h => by cases h)⟩, (fun h => by cases h), (fun h => by cases h), (fun h => by cases h), (fun h => by cases h), (fun h => by cases h), (fun h => by cases h), (fun h => by cases h)⟩⟩
  · intro i o ho l a w2 hl hd hI
    obtain ⟨m1, m2, m3, p, rfl, HF⟩ := hI
    have hi : i < 19 := (Array.getElem?_eq_some_iff.1 ho).1
    have hp1 := hd
    clear hd
    have hi5 : w2.cell? ⟨pi, 5, none⟩ = some (.int .i64 4) := by rw [cell_of_heap ((HF.out.1.hb.block pi (lt_of_heap HI1.out)).trans HI1.out)]; rfl
    have hi6 : w2.cell? ⟨pi, 6, none⟩ = some (.int .i64 5) := by rw [cell_of_heap ((HF.out.1.hb.block pi (lt_of_heap HI1.out)).trans HI1.out)]; rfl
    rcases i with _ | i
    · simp only [List.getElem?_toArray, List.getElem?_cons_zero, List.getElem?_cons_succ, Option.some.injEq] at ho
      subst ho
      simp [Region.binds] at hp1
      have hl : l 0 = false := hl
      have h18 := no18 HF.out.2 (by simp [hl])
      have h16 := no_of HF.out.2.2.2.2.1 hl
      have hF := HF.out.1
      have hD := HF.out.2
      rw [hl, h18] at hF
      refine Ri.op_ok (v := .map (some w2.heap.size)) (w' := w2.alloc (.map #[] 0)) (by rfl) ?_ ⟨w2.heap.size, m2, m3, p, by simp [pt, hl, h16, Ri.cput_true, Ri.cput_false, Ri.put_cput], Lib.hid ⟨?_, by simpa [Dep, hl, h16, h18] using hD⟩⟩
      · generalize pt l pi m1 m2 m3 p a0 = PA at *
        simp only [execOp, Ri.eval_const]
        simp [ptr, go_sem, run_makeMap]
      · have := hF.op0
        simpa [h18] using this
    rcases i with _ | i
    · simp only [List.getElem?_toArray, List.getElem?_cons_zero, List.getElem?_cons_succ, Option.some.injEq] at ho
      subst ho
      simp [Region.binds] at hp1
      have hl : l 1 = false := hl
      have h18 := no18 HF.out.2 (by simp [hl])
      have h16 := no_of HF.out.2.2.2.2.2.1 hl
      have hF := HF.out.1
      have hD := HF.out.2
      rw [hl, h18] at hF
      refine Ri.op_ok (v := .map (some w2.heap.size)) (w' := w2.alloc (.map #[] 0)) (by rfl) ?_ ⟨m1, w2.heap.size, m3, p, by simp [pt, hl, h16, Ri.cput_true, Ri.cput_false, Ri.put_cput], Lib.hid ⟨?_, by simpa [Dep, hl, h16, h18] using hD⟩⟩
      · generalize pt l pi m1 m2 m3 p a0 = PA at *
        simp only [execOp, Ri.eval_const]
        simp [ptr, go_sem, run_makeMap]
      · have := hF.op1
        simpa [h18] using this
    rcases i with _ | i
    · simp only [List.getElem?_toArray, List.getElem?_cons_zero, List.getElem?_cons_succ, Option.some.injEq] at ho
      subst ho
      simp [Region.binds] at hp1
      have hl : l 2 = false := hl
      have h18 := no18 HF.out.2 (by simp [hl])
      have h3 := no_of HF.out.2.2.1 hl
      have h14 := no_of HF.out.2.2.2.1 hl
      have h15 := no_of HF.out.2.2.2.2.2.2.2 hl
      have h16 := no_of HF.out.2.2.2.2.2.2.1 h15
      have hF := HF.out.1
      have hD := HF.out.2
      rw [hl, h18, h3, h14] at hF
      refine Ri.op_ok (v := .map (some w2.heap.size)) (w' := w2.alloc (.map #[] 0)) (by rfl) ?_ ⟨m1, m2, w2.heap.size, p, by simp [pt, hl, h15, h16, Ri.cput_true, Ri.cput_false, Ri.put_cput], Lib.hid ⟨?_, by simp [Dep, hl, h15, h16, h18, h3, h14]⟩⟩
      · generalize pt l pi m1 m2 m3 p a0 = PA at *
        simp only [execOp, Ri.eval_const]
        simp [ptr, go_sem, run_makeMap]
      · have := hF.op2
        simpa [h18, h3, h14] using this
    rcases i with _ | i
    · simp only [List.getElem?_toArray, List.getElem?_cons_zero, List.getElem?_cons_succ, Option.some.injEq] at ho
      subst ho
      simp [Region.binds] at hp1
      have hl : l 3 = false := hl
      have h2 : l 2 = true := hp1
      have h18 := no18 HF.out.2 (by simp [hl])
      have hF := HF.out.1
      have hD := HF.out.2
      rw [hl, h18, h2] at hF
      obtain ⟨w', hrun, hF'⟩ := hF.i3
      refine Ri.op_skip (w' := w') (by rfl) ?_ ⟨m1, m2, m3, p, by simp [pt, Act.put, hl, Ri.cput_true, Ri.cput_false, Ri.put_cput], Lib.hid ⟨by simpa [h18, h2] using hF', by have := hD; simp_all [Dep]⟩⟩
      unfold kStart at hrun
      have q33 : (pt l pi m1 m2 m3 p a0).eval (.tmp 33) = .map (some m3) := by simp [pt, hp1, Ri.cput_true, Ri.eval_put_ne, Ri.eval_cput_ne, Ri.eval_put_eq, Ri.put_size, Ri.cput_size, s0, e1]
      generalize pt l pi m1 m2 m3 p a0 = PA at *
      simp only [execOp, q33, Ri.eval_const]
      simp [ptr, go_sem, hrun]
    rcases i with _ | i
    · simp only [List.getElem?_toArray, List.getElem?_cons_zero, List.getElem?_cons_succ, Option.some.injEq] at ho
      subst ho
      simp [Region.binds] at hp1
      have hl : l 4 = false := hl
      refine Ri.op_ok (v := ptr pi 0) (w' := w2) (by rfl) ?_ ⟨m1, m2, m3, p, by simp [pt, hl, Ri.cput_true, Ri.cput_false, Ri.put_cput], Lib.hid ⟨by simpa [HeadL] using HF.out.1, by have := HF.out.2; simp_all [Dep]⟩⟩
      have q1 : (pt l pi m1 m2 m3 p a0).eval (.tmp 1) = ptr pi 0 := by simp [pt, hp1, Ri.cput_true, Ri.eval_put_ne, Ri.eval_cput_ne, Ri.eval_put_eq, Ri.put_size, Ri.cput_size, s0, e1]
      generalize pt l pi m1 m2 m3 p a0 = PA at *
      simp only [execOp, q1, Ri.eval_const]
      simp [ptr, go_sem]
    rcases i with _ | i
    · simp only [List.getElem?_toArray, List.getElem?_cons_zero, List.getElem?_cons_succ, Option.some.injEq] at ho
      subst ho
      simp [Region.binds] at hp1
      have hl : l 5 = false := hl
      refine Ri.op_ok (v := ptr pi 0) (w' := w2) (by rfl) ?_ ⟨m1, m2, m3, p, by simp [pt, hl, Ri.cput_true, Ri.cput_false, Ri.put_cput], Lib.hid ⟨by simpa [HeadL] using HF.out.1, by have := HF.out.2; simp_all [Dep]⟩⟩
      have q34 : (pt l pi m1 m2 m3 p a0).eval (.tmp 34) = ptr pi 0 := by simp [pt, hp1, Ri.cput_true, Ri.eval_put_ne, Ri.eval_cput_ne, Ri.eval_put_eq, Ri.put_size, Ri.cput_size, s0, e1]
      generalize pt l pi m1 m2 m3 p a0 = PA at *
      simp only [execOp, q34, Ri.eval_const]
      simp [ptr, go_sem]
    rcases i with _ | i
    · simp only [List.getElem?_toArray, List.getElem?_cons_zero, List.getElem?_cons_succ, Option.some.injEq] at ho
      subst ho
      simp [Region.binds] at hp1
      have hl : l 6 = false := hl
      refine Ri.op_ok (v := ptr pi 6) (w' := w2) (by rfl) ?_ ⟨m1, m2, m3, p, by simp [pt, hl, Ri.cput_true, Ri.cput_false, Ri.put_cput], Lib.hid ⟨by simpa [HeadL] using HF.out.1, by have := HF.out.2; simp_all [Dep]⟩⟩
      have q35 : (pt l pi m1 m2 m3 p a0).eval (.tmp 35) = ptr pi 0 := by simp [pt, hp1, Ri.cput_true, Ri.eval_put_ne, Ri.eval_cput_ne, Ri.eval_put_eq, Ri.put_size, Ri.cput_size, s0, e1]
      generalize pt l pi m1 m2 m3 p a0 = PA at *
      simp only [execOp, q35, Ri.eval_const]
      simp [ptr, go_sem]
    rcases i with _ | i
    · simp only [List.getElem?_toArray, List.getElem?_cons_zero, List.getElem?_cons_succ, Option.some.injEq] at ho
      subst ho
      simp [Region.binds] at hp1
      have hl : l 7 = false := hl
      refine Ri.op_ok (v := .int .i64 5) (w' := w2) (by rfl) ?_ ⟨m1, m2, m3, p, by simp [pt, hl, Ri.cput_true, Ri.cput_false, Ri.put_cput], Lib.hid ⟨by simpa [HeadL] using HF.out.1, by have := HF.out.2; simp_all [Dep]⟩⟩
      have q36 : (pt l pi m1 m2 m3 p a0).eval (.tmp 36) = ptr pi 6 := by simp [pt, hp1, Ri.cput_true, Ri.eval_put_ne, Ri.eval_cput_ne, Ri.eval_put_eq, Ri.put_size, Ri.cput_size, s0, e1]
      generalize pt l pi m1 m2 m3 p a0 = PA at *
      simp only [execOp, q36, Ri.eval_const]
      simp [ptr, go_sem, hi6]
    rcases i with _ | i
    · simp only [List.getElem?_toArray, List.getElem?_cons_zero, List.getElem?_cons_succ, Option.some.injEq] at ho
      subst ho
      simp [Region.binds] at hp1
      have hl : l 8 = false := hl
      refine Ri.op_ok (v := ptr pi 0) (w' := w2) (by rfl) ?_ ⟨m1, m2, m3, p, by simp [pt, hl, Ri.cput_true, Ri.cput_false, Ri.put_cput], Lib.hid ⟨by simpa [HeadL] using HF.out.1, by have := HF.out.2; simp_all [Dep]⟩⟩
      have q1 : (pt l pi m1 m2 m3 p a0).eval (.tmp 1) = ptr pi 0 := by simp [pt, hp1, Ri.cput_true, Ri.eval_put_ne, Ri.eval_cput_ne, Ri.eval_put_eq, Ri.put_size, Ri.cput_size, s0, e1]
      generalize pt l pi m1 m2 m3 p a0 = PA at *
      simp only [execOp, q1, Ri.eval_const]
      simp [ptr, go_sem]
    rcases i with _ | i
    · simp only [List.getElem?_toArray, List.getElem?_cons_zero, List.getElem?_cons_succ, Option.some.injEq] at ho
      subst ho
      simp [Region.binds] at hp1
      have hl : l 9 = false := hl
      refine Ri.op_ok (v := ptr pi 0) (w' := w2) (by rfl) ?_ ⟨m1, m2, m3, p, by simp [pt, hl, Ri.cput_true, Ri.cput_false, Ri.put_cput], Lib.hid ⟨by simpa [HeadL] using HF.out.1, by have := HF.out.2; simp_all [Dep]⟩⟩
      have q38 : (pt l pi m1 m2 m3 p a0).eval (.tmp 38) = ptr pi 0 := by simp [pt, hp1, Ri.cput_true, Ri.eval_put_ne, Ri.eval_cput_ne, Ri.eval_put_eq, Ri.put_size, Ri.cput_size, s0, e1]
      generalize pt l pi m1 m2 m3 p a0 = PA at *
      simp only [execOp, q38, Ri.eval_const]
      simp [ptr, go_sem]
    rcases i with _ | i
    · simp only [List.getElem?_toArray, List.getElem?_cons_zero, List.getElem?_cons_succ, Option.some.injEq] at ho
      subst ho
      simp [Region.binds] at hp1
      have hl : l 10 = false := hl
      refine Ri.op_ok (v := ptr pi 5) (w' := w2) (by rfl) ?_ ⟨m1, m2, m3, p, by simp [pt, hl, Ri.cput_true, Ri.cput_false, Ri.put_cput], Lib.hid ⟨by simpa [HeadL] using HF.out.1, by have := HF.out.2; simp_all [Dep]⟩⟩
      have q39 : (pt l pi m1 m2 m3 p a0).eval (.tmp 39) = ptr pi 0 := by simp [pt, hp1, Ri.cput_true, Ri.eval_put_ne, Ri.eval_cput_ne, Ri.eval_put_eq, Ri.put_size, Ri.cput_size, s0, e1]
      generalize pt l pi m1 m2 m3 p a0 = PA at *
      simp only [execOp, q39, Ri.eval_const]
      simp [ptr, go_sem]
    rcases i with _ | i
    · simp only [List.getElem?_toArray, List.getElem?_cons_zero, List.getElem?_cons_succ, Option.some.injEq] at ho
      subst ho
      simp [Region.binds] at hp1
      have hl : l 11 = false := hl
      refine Ri.op_ok (v := .int .i64 4) (w' := w2) (by rfl) ?_ ⟨m1, m2, m3, p, by simp [pt, hl, Ri.cput_true, Ri.cput_false, Ri.put_cput], Lib.hid ⟨by simpa [HeadL] using HF.out.1, by have := HF.out.2; simp_all [Dep]⟩⟩
      have q40 : (pt l pi m1 m2 m3 p a0).eval (.tmp 40) = ptr pi 5 := by simp [pt, hp1, Ri.cput_true, Ri.eval_put_ne, Ri.eval_cput_ne, Ri.eval_put_eq, Ri.put_size, Ri.cput_size, s0, e1]
      generalize pt l pi m1 m2 m3 p a0 = PA at *
      simp only [execOp, q40, Ri.eval_const]
      simp [ptr, go_sem, hi5]
    rcases i with _ | i
    · simp only [List.getElem?_toArray, List.getElem?_cons_zero, List.getElem?_cons_succ, Option.some.injEq] at ho
      subst ho
      simp [Region.binds] at hp1
      have hl : l 12 = false := hl
      refine Ri.op_ok (v := .int .i64 1) (w' := w2) (by rfl) ?_ ⟨m1, m2, m3, p, by simp [pt, hl, Ri.cput_true, Ri.cput_false, Ri.put_cput], Lib.hid ⟨by simpa [HeadL] using HF.out.1, by have := HF.out.2; simp_all [Dep]⟩⟩
      have q37 : (pt l pi m1 m2 m3 p a0).eval (.tmp 37) = .int .i64 5 := by simp [pt, hp1, Ri.cput_true, Ri.eval_put_ne, Ri.eval_cput_ne, Ri.eval_put_eq, Ri.put_size, Ri.cput_size, s0, e1]
      have q41 : (pt l pi m1 m2 m3 p a0).eval (.tmp 41) = .int .i64 4 := by simp [pt, hp1, Ri.cput_true, Ri.eval_put_ne, Ri.eval_cput_ne, Ri.eval_put_eq, Ri.put_size, Ri.cput_size, s0, e1]
      generalize pt l pi m1 m2 m3 p a0 = PA at *
      simp only [execOp, q37, q41, Ri.eval_const]
      simp [ptr, go_sem]
      rfl
    rcases i with _ | i
    · simp only [List.getElem?_toArray, List.getElem?_cons_zero, List.getElem?_cons_succ, Option.some.injEq] at ho
      subst ho
      simp [Region.binds] at hp1
      have hl : l 13 = false := hl
      refine Ri.op_ok (v := .int .i8 1) (w' := w2) (by rfl) ?_ ⟨m1, m2, m3, p, by simp [pt, hl, Ri.cput_true, Ri.cput_false, Ri.put_cput], Lib.hid ⟨by simpa [HeadL] using HF.out.1, by have := HF.out.2; simp_all [Dep]⟩⟩
      have q42 : (pt l pi m1 m2 m3 p a0).eval (.tmp 42) = .int .i64 1 := by simp [pt, hp1, Ri.cput_true, Ri.eval_put_ne, Ri.eval_cput_ne, Ri.eval_put_eq, Ri.put_size, Ri.cput_size, s0, e1]
      generalize pt l pi m1 m2 m3 p a0 = PA at *
      simp only [execOp, q42, Ri.eval_const]
      simp [ptr, go_sem]
      rfl
    rcases i with _ | i
    · simp only [List.getElem?_toArray, List.getElem?_cons_zero, List.getElem?_cons_succ, Option.some.injEq] at ho
      subst ho
      simp [Region.binds] at hp1
      have hl : l 14 = false := hl
      have h2 : l 2 = true := hp1.1
      have h18 := no18 HF.out.2 (by simp [hl])
      have hF := HF.out.1
      have hD := HF.out.2
      rw [hl, h18, h2] at hF
      obtain ⟨w', hrun, hF'⟩ := hF.i14
      refine Ri.op_skip (w' := w') (by rfl) ?_ ⟨m1, m2, m3, p, by simp [pt, Act.put, hl, Ri.cput_true, Ri.cput_false, Ri.put_cput], Lib.hid ⟨by simpa [h18, h2] using hF', by have := hD; simp_all [Dep]⟩⟩
      unfold kHier at hrun
      have q33 : (pt l pi m1 m2 m3 p a0).eval (.tmp 33) = .map (some m3) := by simp [pt, hp1, Ri.cput_true, Ri.eval_put_ne, Ri.eval_cput_ne, Ri.eval_put_eq, Ri.put_size, Ri.cput_size, s0, e1]
      have q43 : (pt l pi m1 m2 m3 p a0).eval (.tmp 43) = .int .i8 1 := by simp [pt, hp1, Ri.cput_true, Ri.eval_put_ne, Ri.eval_cput_ne, Ri.eval_put_eq, Ri.put_size, Ri.cput_size, s0, e1]
      generalize pt l pi m1 m2 m3 p a0 = PA at *
      simp only [execOp, q33, q43, Ri.eval_const]
      simp [ptr, go_sem, hrun]
    rcases i with _ | i
    · simp only [List.getElem?_toArray, List.getElem?_cons_zero, List.getElem?_cons_succ, Option.some.injEq] at ho
      subst ho
      simp [Region.binds] at hp1
      have hl : l 15 = false := hl
      refine Ri.op_ok (v := .map (some m3)) (w' := w2) (by rfl) ?_ ⟨m1, m2, m3, p, by simp [pt, hl, Ri.cput_true, Ri.cput_false, Ri.put_cput], Lib.hid ⟨by simpa [HeadL] using HF.out.1, by have := HF.out.2; simp_all [Dep]⟩⟩
      have q33 : (pt l pi m1 m2 m3 p a0).eval (.tmp 33) = .map (some m3) := by simp [pt, hp1, Ri.cput_true, Ri.eval_put_ne, Ri.eval_cput_ne, Ri.eval_put_eq, Ri.put_size, Ri.cput_size, s0, e1]
      generalize pt l pi m1 m2 m3 p a0 = PA at *
      simp only [execOp, q33, Ri.eval_const]
      simp [ptr, go_sem]
    rcases i with _ | i
    · simp only [List.getElem?_toArray, List.getElem?_cons_zero, List.getElem?_cons_succ, Option.some.injEq] at ho
      subst ho
      simp [Region.binds] at hp1
      have hl : l 16 = false := hl
      refine Ri.op_ok (v := .agg #[.slice none 0 0, .map (some m1), .map (some m2), .map (some m3), .slice none 0 0]) (w' := w2) (by rfl) ?_ ⟨m1, m2, m3, p, by simp [pt, hl, Ri.cput_true, Ri.cput_false, Ri.put_cput], Lib.hid ⟨by simpa [HeadL] using HF.out.1, by have := HF.out.2; simp_all [Dep]⟩⟩
      have q31 : (pt l pi m1 m2 m3 p a0).eval (.tmp 31) = .map (some m1) := by simp [pt, hp1, Ri.cput_true, Ri.eval_put_ne, Ri.eval_cput_ne, Ri.eval_put_eq, Ri.put_size, Ri.cput_size, s0, e1]
      have q32 : (pt l pi m1 m2 m3 p a0).eval (.tmp 32) = .map (some m2) := by simp [pt, hp1, Ri.cput_true, Ri.eval_put_ne, Ri.eval_cput_ne, Ri.eval_put_eq, Ri.put_size, Ri.cput_size, s0, e1]
      have q44 : (pt l pi m1 m2 m3 p a0).eval (.tmp 44) = .map (some m3) := by simp [pt, hp1, Ri.cput_true, Ri.eval_put_ne, Ri.eval_cput_ne, Ri.eval_put_eq, Ri.put_size, Ri.cput_size, s0, e1]
      generalize pt l pi m1 m2 m3 p a0 = PA at *
      simp [execOp, q31, q32, q44, Ri.eval_const]
      simp [ptr, go_sem]
    rcases i with _ | i
    · simp only [List.getElem?_toArray, List.getElem?_cons_zero, List.getElem?_cons_succ, Option.some.injEq] at ho
      subst ho
      simp [Region.binds] at hp1
      have hl : l 17 = false := hl
      have h18 := no18 HF.out.2 (by simp [hl])
      have hF := HF.out.1
      have hD := HF.out.2
      rw [hl, h18] at hF
      refine Ri.op_ok (v := ptr w2.heap.size 0) (w' := w2.alloc (.cells #[.slice none 0 0, .map none, .map none, .map none, .slice none 0 0] tUnk)) (by rfl) ?_ ⟨m1, m2, m3, w2.heap.size, by simp [pt, hl, Ri.cput_true, Ri.cput_false, Ri.put_cput], Lib.hid ⟨?_, by simpa [Dep, hl, h18] using hD⟩⟩
      · generalize pt l pi m1 m2 m3 p a0 = PA at *
        simp only [execOp, Ri.eval_const]
        simp [ptr, go_sem, zeroUnk]
      · have := hF.op17
        simpa [h18] using this
    rcases i with _ | i
    · simp only [List.getElem?_toArray, List.getElem?_cons_zero, List.getElem?_cons_succ, Option.some.injEq] at ho
      subst ho
      simp [Region.binds] at hp1
      have hl : l 18 = false := hl
      obtain ⟨h17, h16, h0, h1, h2, h3, h4⟩ : l 17 = true ∧ l 16 = true ∧ l 0 = true ∧ l 1 = true ∧ l 2 = true ∧ l 3 = true ∧ l 14 = true := by simp_all
      have hF := HF.out.1
      have hD := HF.out.2
      rw [h17, hl, h0, h1, h2, h3, h4] at hF
      obtain ⟨hp, hpc⟩ := hF.f17 rfl
      rw [if_neg (by decide)] at hpc
      have c0 : w2.cell? ⟨p, 0, none⟩ = some (.slice none 0 0) := by rw [cell_of_heap hpc]; rfl
      have c1 : w2.cell? ⟨p, 1, none⟩ = some (.map none) := by rw [cell_of_heap hpc]; rfl
      have c2 : w2.cell? ⟨p, 2, none⟩ = some (.map none) := by rw [cell_of_heap hpc]; rfl
      have c3 : w2.cell? ⟨p, 3, none⟩ = some (.map none) := by rw [cell_of_heap hpc]; rfl
      have c4 : w2.cell? ⟨p, 4, none⟩ = some (.slice none 0 0) := by rw [cell_of_heap hpc]; rfl
      have hz : ∀ j, w2.frozen? ⟨p, j, none⟩ = false := fun j => frozen_of_heap hpc j
      obtain ⟨w3, hw3⟩ : ∃ w3, w3 = (((((w2.setCell ⟨p, 0, none⟩ (.slice none 0 0)).setCell ⟨p, 1, none⟩ (.map (some m1))).setCell ⟨p, 2, none⟩ (.map (some m2))).setCell ⟨p, 3, none⟩ (.map (some m3))).setCell ⟨p, 4, none⟩ (.slice none 0 0)) := ⟨_, rfl⟩
      refine Ri.op_skip (w' := w3) (by rfl) ?_ ⟨m1, m2, m3, p, by simp [pt, Act.put, hl, Ri.cput_true, Ri.cput_false, Ri.put_cput], Lib.hid ⟨?_, by have := HF.out.2; simp_all [Dep]⟩⟩
      · have q9 : (pt l pi m1 m2 m3 p a0).eval (.tmp 9) = ptr p 0 := by simp [pt, h17, h16, Ri.cput_true, Ri.eval_put_ne, Ri.eval_cput_ne, Ri.eval_put_eq, Ri.put_size, Ri.cput_size, s0, e1]
        have q45 : (pt l pi m1 m2 m3 p a0).eval (.tmp 45) = .agg #[.slice none 0 0, .map (some m1), .map (some m2), .map (some m3), .slice none 0 0] := by simp [pt, h17, h16, Ri.cput_true, Ri.eval_put_ne, Ri.eval_cput_ne, Ri.eval_put_eq, Ri.put_size, Ri.cput_size, s0, e1]
        generalize pt l pi m1 m2 m3 p a0 = PA at *
        simp only [execOp, q9, q45, Ri.eval_const]
        rw [hw3]
        clear hw3
        simp [ptr, go_sem, c0, c1, c2, c3, c4, hz]
      · have := hF.op18
        rw [← hw3] at this
        simpa [hl, h17, h16, h0, h1, h2, h3, h4] using this
    omega
  · intro l a w2 hall hI
    obtain ⟨m1, m2, m3, p, rfl, HF⟩ := hI
    have ha : ∀ i, i < 19 → l i = true := hall
    have hF := HF.out.1
    rw [ha 0 (by decide), ha 1 (by decide), ha 2 (by decide), ha 3 (by decide), ha 14 (by decide), ha 17 (by decide), ha 18 (by decide)] at hF
    have HD := Lib.hid hF
    have hp : pt l pi m1 m2 m3 p a0 = pt (fun _ => true) pi m1 m2 m3 p a0 := by
      unfold pt
      simp only [ha 0 (by decide), ha 1 (by decide), ha 2 (by decide), ha 4 (by decide), ha 5 (by decide), ha 6 (by decide), ha 7 (by decide), ha 8 (by decide), ha 9 (by decide), ha 10 (by decide), ha 11 (by decide), ha 12 (by decide), ha 13 (by decide), ha 15 (by decide), ha 16 (by decide), ha 17 (by decide)]
    rw [hp, HA.out]
    clear hp ha hall HF hF HA s0 e1
    unfold pt
    simp only [Ri.cput_true, ptr]
    go_frame
    have hT := HT.out
    have hsort : sortK hd0 (us.map (rowU ns)) = T.map (rowU ns) := by rw [hT]; exact sortK_map (rowU ns) hd0 (nameU ns) us (fun _ _ => rfl)
    have hTl : T.length = N := by rw [hT, sortK_length]; exact HN.out
    have hTo : ∀ u ∈ T, OkU ns u := fun u hu => HOK.out u ((sortK_perm (nameU ns) us).mem_iff.1 (by rw [← hT]; exact hu))
    have hml := HML.out
    have hNN := HN.out
    have HS := Lib.hid (sortRows_any (by rw [hml, hNN]; exact hpos) (Kd.R_below HR1.out HD.out.hb) (by rw [hml, hNN]; omega) (fun r hr => by rw [HX.out r hr]; decide))
    have HTL := Lib.hid hTl
    have HTO := Lib.hid hTo
    have HSO := Lib.hid hsort
    clear hml hNN hTl hTo hsort hT
    go_wp2_with fail
    refine HS.out.mono ?_
    rintro e w3 ⟨rfl, hR3, hg3⟩
    rw [HSO.out] at hR3
    have hml : (T.map (rowU ns)).length = N := by rw [List.length_map]; exact HTL.out
    obtain ⟨g, cap, inner, hv, hra⟩ := rows_shape (by rw [hml]; exact hpos) hR3 (fun r hr => by
      obtain ⟨u, hu, rfl⟩ := List.mem_map.1 hr
      rw [row_len (HTO.out u hu)]; decide)
    rw [hml] at hv
    cases hv
    have hgl : g < w.heap.size := HOB.out g rfl
    have HP0 := Lib.hid (PSt.zero (S := T) (inner := inner) HD.out hg3 (show g < w1.heap.size by omega))
    have HRA := Lib.hid hra
    have hge : base ≤ g := hra.hg.1
    have hpg : pi ≠ g := by
      rintro rfl
      have h1 := HR.out
      obtain ⟨cur, hh⟩ := own_heap (Kd.R_own h1).choose_spec (g := pi) rfl
      have h2 := HI.out
      rw [hh] at h2
      injection h2 with h2
      injection h2 with _ h2
      exact absurd h2 (by decide)
    have hI3 : w3.heap[pi]? = some (.cells infoCells tInfo fr) := by
      rw [hg3.block pi (by have := lt_of_heap HI1.out; have := HD.out.hb.size; omega) (fun e => hpg (Option.some.inj e))]
      exact (HD.out.hb.block pi (lt_of_heap HI1.out)).trans HI1.out
    have hpi1 : pi < w1.heap.size := lt_of_heap HI1.out
    have hB3 : Kd.string.C w3 (some bd) ns.length ns := by
      have h2 := HBO.out bd rfl
      have h3 := HBA.out
      refine strC_hold HB.out ?_
      rw [hg3.block bd.block (by have := HD.out.hb.size; omega) (fun e => by have : bd.block = g := Option.some.inj e; omega), HD.out.hb.block bd.block (by omega), HB1.out.block bd.block (by omega)]
    have hB3b : bd.block < w1.heap.size := by have := HBO.out bd rfl; have := HBA.out; omega
    have HI3 := Lib.hid hI3
    have HB3 := Lib.hid hB3
    have HB3B := Lib.hid hB3b
    have HL3 := Lib.hid (show Below base w w3 from ((HB1.out.mono HBA.out).trans (HD.out.hb.mono (Nat.le_trans HBA.out hzw))).grown hg3 (by have := HD.out.hb.size; have := HBA.out; omega) (fun k hk => by cases hk; exact hge))
    have HBK := Lib.hid (show base ≤ w1.heap.size from Nat.le_trans HBA.out hzw)
    have hrb : ∀ k, k < w.heap.size → k < w1.heap.size := fun k hk => by omega
    have HRB := Lib.hid hrb
    clear hR3 hg3 hml hra hI3 hB3 hB3b hpg hrb hge HS HD HR HR1 HC HI HI1 HX HML HB HB1 HOB HOE HBO HBA
    generalize w1.heap.size = Bs at *
    clear hzw
    go_wp2_with fail
    go_loopw [50] (fun iv wr => ∃ k : Nat, k ≤ N ∧ iv = .int .i64 k ∧ Hid (PSt T inner Bs w3 p m1 m2 m3 k wr)) (fun iv _ => N - (intOf iv).toNat)
    case atStart => exact ⟨0, Nat.zero_le _, rfl, HP0⟩
    case round =>
      clear HP0
      obtain ⟨k, hk, rfl, HP⟩ := hrel
      by_cases hlt : k < N
      · have hkT : k < T.length := by rw [HTL.out]; exact hlt
        have hkm : k < (T.map (rowU ns)).length := by rw [List.length_map]; exact hkT
        obtain ⟨ab, c6, hin, hoka, hal, hc6, hCa⟩ := HRA.out.row k hkm
        have hblk := HP.out.hb.block
        have hgB : g < Bs := HRB.out g hgl
        have haB : ab < Bs := HRB.out _ hoka.2.2.1
        have hr6 : (T.map (rowU ns))[k].length = 6 := by rw [List.getElem_map]; exact row_len (HTO.out _ (List.getElem_mem _))
        rw [hr6] at hin hc6
        have hck : wr.cell? ⟨g, k, none⟩ = some (.slice (some ⟨ab, 0, none⟩) 6 c6) := by
          have h1 := HRA.out.cell k hkm
          rw [hin] at h1
          have h2 : wr.cell? ⟨g, k, none⟩ = w3.cell? ⟨g, k, none⟩ := by unfold World.cell?; rw [hblk g hgB]
          rw [h2, h1]
        have hCr := strC_hold hCa (hblk ab haB)
        rw [List.getElem_map] at hCr
        obtain ⟨r0, r1, r2, r3⟩ := rowU_cells hCr
        have hIr := (hblk pi hpi1).trans HI3.out
        have i1 : wr.cell? ⟨pi, 1, none⟩ = some (.int .i64 0) := by rw [cell_of_heap hIr]; rfl
        have i2 : wr.cell? ⟨pi, 2, none⟩ = some (.int .i64 1) := by rw [cell_of_heap hIr]; rfl
        have i3 : wr.cell? ⟨pi, 3, none⟩ = some (.int .i64 2) := by rw [cell_of_heap hIr]; rfl
        have i4 : wr.cell? ⟨pi, 4, none⟩ = some (.int .i64 3) := by rw [cell_of_heap hIr]; rfl
        have i5 : wr.cell? ⟨pi, 5, none⟩ = some (.int .i64 4) := by rw [cell_of_heap hIr]; rfl
        have hou := HTO.out _ (List.getElem_mem hkT)
        have HT1 := Lib.hid (List.take_succ_eq_append_getElem hkT)
        have hkI : k < inner.length := by rw [HRA.out.len]; exact hkm
        have HT2 := Lib.hid (List.take_succ_eq_append_getElem hkI)
        have hin' : inner[k] = .slice (some ⟨ab, 0, none⟩) 6 c6 := by
          rw [List.getElem?_eq_getElem hkI] at hin
          exact Option.some.inj hin
        rw [hin'] at HT2
        obtain ⟨u, hu⟩ : ∃ u, T[k] = u := ⟨_, rfl⟩
        rw [hu] at r0 r1 r2 r3 hou HT1
        have HU := Lib.hid hu
        clear hu
        have HOU := Lib.hid hou
        obtain ⟨ci, hci⟩ : ∃ ci : Nat, u.1.toNat = ci := ⟨_, rfl⟩
        have hcl : ci < ns.length := by have := hou.c; omega
        rw [hci] at r0
        have hname : ns.getD ci default = ns[ci] := by simp [List.getD, hcl]
        rw [hname] at r0
        have HNM := Lib.hid hname
        have HCI := Lib.hid hci
        have HCB : Hid (Kd.string.C wr (some bd) ns.length ns) := Lib.hid (strC_hold HB3.out (hblk bd.block HB3B.out))
        clear hname hci hin hin' hCa hCr hIr hr6 hoka hal hou hkI
        have HFC := Lib.hid (show ∀ W : World, (∀ q, q < Bs → W.heap[q]? = w3.heap[q]?) → W.cell? ⟨ab, 1, none⟩ = some (.string (ofL (Lib.itoa u.2.1))) ∧ W.cell? ⟨ab, 2, none⟩ = some (.string (ofL (Lib.itoa u.2.2.1))) ∧ W.cell? ⟨ab, 3, none⟩ = some (.string (ofL (Lib.itoa u.2.2.2.1))) ∧
            W.cell? ⟨pi, 2, none⟩ = some (.int .i64 1) ∧ W.cell? ⟨pi, 3, none⟩ = some (.int .i64 2) ∧ W.cell? ⟨pi, 4, none⟩ = some (.int .i64 3) ∧ W.cell? ⟨pi, 5, none⟩ = some (.int .i64 4) from fun W hW => by
          have e : ∀ (ad : Addr), ad.block < Bs → W.cell? ad = wr.cell? ad := fun ad h => by
            unfold World.cell?
            rw [hW _ h, hblk _ h]
          exact ⟨(e ⟨ab, 1, none⟩ haB).trans r1, (e ⟨ab, 2, none⟩ haB).trans r2, (e ⟨ab, 3, none⟩ haB).trans r3, (e ⟨pi, 2, none⟩ hpi1).trans i2, (e ⟨pi, 3, none⟩ hpi1).trans i3, (e ⟨pi, 4, none⟩ hpi1).trans i4, (e ⟨pi, 5, none⟩ hpi1).trans i5⟩)
        go_wp2_with fail
        go_loopw [56, 12] (fun jv cv w' => ∃ j : Nat, j ≤ ci ∧ jv = .int .i64 j ∧ cv = .int .i32 (-1) ∧ w' = wr) (fun jv _ _ => ci - (intOf jv).toNat)
        case atStart => exact ⟨0, Nat.zero_le _, rfl, rfl, rfl⟩
        case round =>
          obtain ⟨j, hj, rfl, rfl, rfl⟩ := hrel
          have hjl : j < ns.length := by omega
          obtain ⟨bd', hbd, hcj⟩ := strs_at HCB.out j hjl
          cases hbd
          have hji : (j : Int) < (ns.length : Int) := by omega
          by_cases hjc : j = ci
          · subst hjc
            have hq : (ns[j].toList == ns[j].toList) = true := by simp
            have hw32 : IntKind.i32.wrap (j : Int) = (j : Int) := by
              have : j ≤ 100000 := by omega
              unfold IntKind.wrap
              simp [IntKind.signed, IntKind.bits, IntKind.min]
              omega
            have hneg : ¬ (j : Int) < 0 := by omega
            have hwk : IntKind.i32.wrap (k : Int) = (k : Int) := by
              unfold IntKind.wrap
              simp [IntKind.signed, IntKind.bits, IntKind.min]
              omega
            obtain ⟨D1, hm1⟩ := HP.out.ix
            obtain ⟨D2, hm2⟩ := HP.out.du
            obtain ⟨vM, vC, hrow, hRM, hRC⟩ := HP.out.row
            have htl : (((inner.take k).map tailV)).length = k := by rw [List.length_map, List.length_take, HRA.out.len, List.length_map, HTL.out]; omega
            have htl2 : ((T.take k).map clsU).length = k := by rw [List.length_map, List.length_take, HTL.out]; omega
            obtain ⟨AC, cC, hvC⟩ := Kd.R_slice hRC
            rw [htl] at hvC
            subst hvC
            have p1 : wr.cell? ⟨p, 1, none⟩ = some (.map (some m1)) := by rw [cell_of_heap hrow]; rfl
            have p2 : wr.cell? ⟨p, 2, none⟩ = some (.map (some m2)) := by rw [cell_of_heap hrow]; rfl
            have p4 : wr.cell? ⟨p, 4, none⟩ = some (.slice AC k cC) := by rw [cell_of_heap hrow]; rfl
            have HM1 := Lib.hid hm1
            have HM2 := Lib.hid hm2
            have hj3 : j ≤ 2147483647 := by omega
            have hk3 : k ≤ 2147483647 := by omega
            have hk4 : k < maxLen := by unfold maxLen; omega
            have HCJ : Hid (clsU (T[k]'hkT) = j) := Lib.hid (by rw [HU.out]; exact HCI.out)
            have HIL := Lib.hid (dupF_le ((T.take k).map clsU) j)
            rw [htl2] at HIL
            clear hm1 hm2 hrow hRM hRC htl htl2
            have HT1 := HT1.out
            have HT1 := Lib.hid HT1
            obtain ⟨nm, hnm⟩ : ∃ nm, ns[j] = nm := ⟨_, rfl⟩
            rw [hnm] at hq hcj r0
            clear hnm
            by_cases hmem : j ∈ (T.take k).map clsU
            · have hs : (idxF ((T.take k).map clsU) j).isSome = true := by rw [idxF_some]; exact decide_eq_true hmem
              obtain ⟨q, hqv⟩ : ∃ q, (idxF ((T.take k).map clsU) j).getD 0 = q := ⟨_, rfl⟩
              obtain ⟨d, hd⟩ : ∃ d, (dupF ((T.take k).map clsU) j).getD 0 = d := ⟨_, rfl⟩
              obtain ⟨d1, hd1⟩ : ∃ d1, d1 = d + 1 := ⟨_, rfl⟩
              have hdk : d1 ≤ 2147483647 := by have := HIL.out; omega
              have hwd : IntKind.i32.wrap ((d : Int) + 1) = (d1 : Int) := by
                unfold IntKind.wrap
                simp [IntKind.signed, IntKind.bits, IntKind.min]
                have := HIL.out
                omega
              have HMEM := Lib.hid hmem
              have HS := Lib.hid hs
              have HQ := Lib.hid hqv
              have HDD := Lib.hid hd
              have HD1 := Lib.hid hd1
              clear hmem hs hqv hd hd1
              go_upto_region 22 with (first
                | (at_lookup; refine wpList_look1 rfl _ _ rfl HM1.out hj3 HQ.out HS.out rfl rfl ?_)
                | (at_lookup; refine wpList_look0 rfl _ _ rfl HM2.out hj3 HDD.out rfl rfl ?_)
                | (at_mapUpdate; refine wpList_upd rfl _ _ _ rfl HM2.out hk4 hj3 hdk rfl rfl rfl ?_; intro w5 hM5 hg5; have HPM := Lib.hid (HP.out.old hkT HCJ.out HMEM.out (by rw [HDD.out, ← HD1.out]; exact hM5) hg5); clear hM5 hg5)
                | fail)
              clear HMEM HS HQ HDD HD1 hdk hwd
              clear HP HM1 HM2 HIL i1 i2 i3 i4 i5 p1 p2 p4 r0 r1 r2 r3 hck hcj hq hblk
              obtain ⟨g1, g2, g3, g4, g5, g6, g7⟩ := HFC.out w5 HPM.out.hb.block
              obtain ⟨L, hL⟩ : ∃ L, u.2.1 = L := ⟨_, rfl⟩
              obtain ⟨R, hRr⟩ : ∃ R, u.2.2.1 = R := ⟨_, rfl⟩
              obtain ⟨Wt, hWt⟩ : ∃ Wt, u.2.2.2.1 = Wt := ⟨_, rfl⟩
              have hbl : 0 ≤ L ∧ L ≤ 1000 := by rw [← hL]; exact HOU.out.l
              have hbr : 0 ≤ R ∧ R ≤ 1000 := by rw [← hRr]; exact HOU.out.r
              have hbw : -30000 ≤ Wt ∧ Wt ≤ 30000 := by rw [← hWt]; exact HOU.out.w
              rw [hL] at g1
              rw [hRr] at g2
              rw [hWt] at g3
              rw [hL, hRr, hWt] at HFC
              have HUL := Lib.hid hL
              have HUR := Lib.hid hRr
              have HUW := Lib.hid hWt
              have wl : IntKind.i16.wrap L = L := by unfold IntKind.wrap; simp [IntKind.signed, IntKind.bits, IntKind.min]; omega
              have wr16 : IntKind.i16.wrap R = R := by unfold IntKind.wrap; simp [IntKind.signed, IntKind.bits, IntKind.min]; omega
              have ww : IntKind.i16.wrap Wt = Wt := by unfold IntKind.wrap; simp [IntKind.signed, IntKind.bits, IntKind.min]; omega
              have hl3 : ¬ 32767 < L := by omega
              have hr3 : ¬ 32767 < R := by omega
              have hw3 : ¬ 32767 < Wt := by omega
              have AL := Lib.hid (fun W => atoi_call (Lib.itoa L) L (by have := itoa_len7 (n := L) (by omega) (by omega); omega) (atoiAll_itoa (by omega) (by omega)) W)
              have AR := Lib.hid (fun W => atoi_call (Lib.itoa R) R (by have := itoa_len7 (n := R) (by omega) (by omega); omega) (atoiAll_itoa (by omega) (by omega)) W)
              have AW := Lib.hid (fun W => atoi_call (Lib.itoa Wt) Wt (by have := itoa_len7 (n := Wt) (by omega) (by omega); omega) (atoiAll_itoa (by omega) (by omega)) W)
              clear hL hRr hWt hbl hbr hbw
              go_wp2_with fail
              refine (AL.out w5).mono ?_
              rintro e w6 ⟨rfl, hb6⟩
              have HPM6 := Lib.hid (HPM.out.below hb6)
              clear g1 g2 g3 g4 g5 g6 g7 HPM hb6 AL
              obtain ⟨g1, g2, g3, g4, g5, g6, g7⟩ := HFC.out w6 HPM6.out.hb.block
              go_wp2_with fail
              refine (AR.out w6).mono ?_
              rintro e w7 ⟨rfl, hb7⟩
              have HPM7 := Lib.hid (HPM6.out.below hb7)
              clear g1 g2 g3 g4 g5 g6 g7 HPM6 hb7 AR
              obtain ⟨g1, g2, g3, g4, g5, g6, g7⟩ := HFC.out w7 HPM7.out.hb.block
              go_wp2_with fail
              refine (AW.out w7).mono ?_
              rintro e w8 ⟨rfl, hb8⟩
              have HPM8 := Lib.hid (HPM7.out.below hb8)
              clear g1 g2 g3 g4 g5 g6 g7 HPM7 hb8 AW
              go_upto_region 38 with fail
              obtain ⟨wA, hwA⟩ : ∃ wA, wA = w8.alloc (.cells #[.int .i16 L, .int .i16 R, .int .i16 Wt] 171) := ⟨_, rfl⟩
              have hbA : Below w8.heap.size w8 wA := by rw [hwA]; exact (Below.refl _ _).alloc (Nat.le_refl _) _
              have HPA := Lib.hid (HPM8.out.below hbA)
              have o0 : wA.cell? ⟨w8.heap.size, 0, none⟩ = some (.int .i16 L) := by rw [hwA, cell_of_heap (heap_new w8 _)]; rfl
              have o1 : wA.cell? ⟨w8.heap.size, 1, none⟩ = some (.int .i16 R) := by rw [hwA, cell_of_heap (heap_new w8 _)]; rfl
              have o2 : wA.cell? ⟨w8.heap.size, 2, none⟩ = some (.int .i16 Wt) := by rw [hwA, cell_of_heap (heap_new w8 _)]; rfl
              rw [← hwA]
              obtain ⟨g1, g2, g3, g4, g5, g6, g7⟩ := HFC.out wA HPA.out.hb.block
              clear hwA hbA HPM8 g1 g2 g3 g4 g5 g6
              generalize w8.heap.size = bm at o0 o1 o2 ⊢
              obtain ⟨vM, vC, hrow, hRM, hRC⟩ := HPA.out.row
              have htm : ((T.take k).map moU).length = k := by rw [List.length_map, List.length_take, HTL.out]; omega
              have htc : ((inner.take k).map tailV).length = k := by rw [List.length_map, List.length_take, HRA.out.len, List.length_map, HTL.out]; omega
              obtain ⟨AM, cM, hvM⟩ := Kd.R_slice hRM
              obtain ⟨AC', cC', hvC'⟩ := Kd.R_slice hRC
              rw [htm] at hvM
              rw [htc] at hvC'
              subst hvM hvC'
              have hsA : Bs ≤ wA.heap.size := Nat.le_trans HPA.out.hB.2.2.2.2 HPA.out.hb.size
              have hBp := HPA.out.hB.1
              have p0 : wA.cell? ⟨p, 0, none⟩ = some (.slice AM k cM) := by rw [cell_of_heap hrow]; rfl
              have pf0 : wA.frozen? ⟨p, 0, none⟩ = false := frozen_of_heap hrow 0
              have HTM := Lib.hid htm
              have HTC := Lib.hid htc
              have HRW := Lib.hid hrow
              have HRM := Lib.hid hRM
              have HRC := Lib.hid hRC
              have HMB := Lib.hid (fun q e => ((own_lt (Kd.R_own hRM).choose_spec q e) : q < wA.heap.size))
              clear hrow hRM hRC htm htc
              go_upto_region 39 with (first
                | (at_builtin; refine kapp (w0 := wA) kMo Bs rfl _ _ 114 171 (.agg #[.int .i16 0, .int .i16 0, .int .i16 0]) 6 rfl Tryd.underlying114 mo_info rfl (by decide) (by decide) _ ((T.take k).map moU) (L, R, Wt) [.int .i16 L, .int .i16 R, .int .i16 Wt] (fun q => q ≠ p) (fun _ => False) wA.heap.size rfl rfl (by intro q u hq; rw [cell_of_heap (heap_new _ _)]; simpa using hq) (mo_M _ _ _ _ _ _) (fun _ h => h.elim) (fun q hq => by have := lt_of_heap HRW.out; simp at hq; omega) (Kd.R_alloc HRM.out _) ((Below.refl _ _).alloc (by omega) _) (by simp; omega) (by rw [HTM.out]; omega) ?_)
                | fail)
              intro v9 w9 hR9 hB9 hg9 hat9
              have hplA := lt_of_heap HRW.out
              have hbx : Below wA.heap.size wA (wA.alloc (.cells #[.int .i16 L, .int .i16 R, .int .i16 Wt] 171)) := (Below.refl _ wA).alloc (Nat.le_refl _) _
              have hrow9 := (hg9.block p (by simp; omega) (fun e => HRM.out.1 p e.symm rfl)).trans ((hbx.block p hplA).trans HRW.out)
              have hRC9 := Kd.R_over (Kd.R_alloc HRC.out (.cells #[.int .i16 L, .int .i16 R, .int .i16 Wt] 171)) (Kd.R_alloc HRM.out (.cells #[.int .i16 L, .int .i16 R, .int .i16 Wt] 171)) (show ∀ q, q ∈ [29] → q ≠ 171 by decide) hg9
              have HME9 := Lib.hid (show MidR T Bs m1 m2 m3 k wA w9 from ⟨hB9, fun m hm hc => by
                obtain ⟨es, cl, hx⟩ := hc
                have h1 := (hbx.block m (lt_of_heap hx)).trans hx
                refine ⟨es, cl, hx, (hg9.block m (lt_of_heap h1) (fun e => ?_)).trans h1⟩
                obtain ⟨cur, hh⟩ := own_heap (Kd.R_own (Kd.R_alloc HRM.out (.cells #[.int .i16 L, .int .i16 R, .int .i16 Wt] 171))).choose_spec e.symm
                rw [h1] at hh
                cases hh⟩)
              replace p0 : w9.cell? ⟨p, 0, none⟩ = some (.slice AM k cM) := by rw [cell_of_heap hrow9]; rfl
              replace pf0 : w9.frozen? ⟨p, 0, none⟩ = false := frozen_of_heap hrow9 0
              obtain ⟨A9, c9, hv9⟩ : ∃ A c, v9 = .slice A (k + 1) c := by
                obtain ⟨A, c, h⟩ := Kd.R_slice hR9
                refine ⟨A, c, h.trans ?_⟩
                congr 1
                have := HTL.out
                simp
                omega
              subst hv9
              have HR9 := Lib.hid hR9
              have HRW9 := Lib.hid hrow9
              have HRC9 := Lib.hid hRC9
              clear hR9 hB9 hg9 hat9 hrow9 hRC9 hbx o0 o1 o2
              go_upto_region 39 with fail
              obtain ⟨wB, hwB⟩ : ∃ wB, wB = w9.setCell ⟨p, 0, none⟩ (.slice A9 (k + 1) c9) := ⟨_, rfl⟩
              have hbB : Below Bs wA wB := by rw [hwB]; exact HME9.out.hb.setCell (p := ⟨p, 0, none⟩) hBp _
              have hrowB : wB.heap[p]? = some (.cells #[.slice A9 (k + 1) c9, .map (some m1), .map (some m2), .map (some m3), .slice AC' k cC'] tUnk (0, 0)) := by
                rw [hwB, heap_set HRW9.out]
                rfl
              have HRMB := Lib.hid (show kMo.R 171 wB Bs (fun q => q ≠ p) (.slice A9 (k + 1) c9) ((T.take k).map moU ++ [(L, R, Wt)]) by rw [hwB, List.map_take]; exact Kd.R_far HR9.out (p := ⟨p, 0, none⟩) (fun q hq => hq) _)
              have HRCB := Lib.hid (show kV.R 29 wB Bs (fun q => q ≠ p) (.slice AC' k cC') ((inner.take k).map tailV) by rw [hwB]; exact Kd.R_far HRC9.out (p := ⟨p, 0, none⟩) (fun q hq => hq) _)
              have HMEB := Lib.hid (show MidR T Bs m1 m2 m3 k wA wB from ⟨hbB, fun m hm hc => by
                obtain ⟨es, cl, h1, h2⟩ := HME9.out.ms m hm hc
                refine ⟨es, cl, h1, ?_⟩
                rw [hwB, heap_set_ne (fun e => ?_)]
                · exact h2
                · rw [e, HRW9.out] at h2; cases h2⟩)
              rw [← hwB]
              clear hwB HR9 HRC9 HRW9 HME9 p0 pf0 HRM HRC
              have hsB : Bs ≤ wB.heap.size := Nat.le_trans hsA hbB.size
              have p4 : wB.cell? ⟨p, 4, none⟩ = some (.slice AC' k cC') := by rw [cell_of_heap hrowB]; rfl
              have pf4 : wB.frozen? ⟨p, 4, none⟩ = false := frozen_of_heap hrowB 4
              have p4' : ∀ o, (wB.alloc o).cell? ⟨p, 4, none⟩ = some (.slice AC' k cC') := fun o => by rw [cell_of_heap (heap_old hrowB o)]; rfl
              have hbW : ∀ q, q < Bs → wB.heap[q]? = w3.heap[q]? := fun q hq => (hbB.block q hq).trans (HPA.out.hb.block q hq)
              obtain ⟨g1, g2, g3, g4, g5, g6, g7⟩ := HFC.out wB hbW
              have HRWB := Lib.hid hrowB
              have HBW := Lib.hid hbW
              clear g1 g2 g3 g4 g5 g6 hrowB hbB hbW
              have htc : ((inner.take k).map tailV).length = k := HTC.out
              have hc64 : ¬ c6 = 4 := by omega
              go_wp2_with fail
              go_region_law (first | (refine app39 (Value.slice (some ⟨ab, 4, none⟩) 2 (c6 - 4)) rfl (by rfl) (.tmp 162) (.tmp 169) rfl HRWB HRMB HRCB HMEB HTC (by omega) hsB rfl rfl ?_; intro A11 c11 w11 HO q4 qf4))
              all_goals
                have HNX := Lib.hid (HO.out.done HPA.out (by rw [HT1.out, List.map_append, List.map_cons, List.map_nil]; unfold moU; rw [HUL.out, HUR.out, HUW.out]) (by rw [HT2.out, List.map_append]; rfl))
                have hkn : k + 1 ≤ N := hlt
                clear HO HPA HFC HRWB HRMB HRCB HMEB HBW HTC HTM HT1 HT2 HUL HUR HUW q4 qf4 g7 p4 p4' pf4
                go_wp2
                go_roundw
                case rel => exact ⟨k + 1, hkn, by go_num, HNX⟩
                case measure => simp [intOf]; omega
            · have hs : (idxF ((T.take k).map clsU) j).isSome = false := by rw [idxF_some]; exact decide_eq_false hmem
              obtain ⟨q, hqv⟩ : ∃ q, (idxF ((T.take k).map clsU) j).getD 0 = q := ⟨_, rfl⟩
              have HMEM := Lib.hid hmem
              have HS := Lib.hid hs
              have HQ := Lib.hid hqv
              clear hmem hs hqv
              go_upto_region 22 with (first
                | (at_lookup; refine wpList_look1 rfl _ _ rfl HM1.out hj3 HQ.out HS.out rfl rfl ?_)
                | (at_mapUpdate; refine wpList_upd rfl _ _ _ rfl HM1.out hk4 hj3 hk3 rfl rfl rfl ?_; intro w5 hM5 hg5; have HPM := Lib.hid (HP.out.new hkT HCJ.out HMEM.out hM5 hg5); clear hM5 hg5)
                | fail)
              clear HMEM HS HQ
              clear HP HM1 HM2 HIL i1 i2 i3 i4 i5 p1 p2 p4 r0 r1 r2 r3 hck hcj hq hblk
              obtain ⟨g1, g2, g3, g4, g5, g6, g7⟩ := HFC.out w5 HPM.out.hb.block
              obtain ⟨L, hL⟩ : ∃ L, u.2.1 = L := ⟨_, rfl⟩
              obtain ⟨R, hRr⟩ : ∃ R, u.2.2.1 = R := ⟨_, rfl⟩
              obtain ⟨Wt, hWt⟩ : ∃ Wt, u.2.2.2.1 = Wt := ⟨_, rfl⟩
              have hbl : 0 ≤ L ∧ L ≤ 1000 := by rw [← hL]; exact HOU.out.l
              have hbr : 0 ≤ R ∧ R ≤ 1000 := by rw [← hRr]; exact HOU.out.r
              have hbw : -30000 ≤ Wt ∧ Wt ≤ 30000 := by rw [← hWt]; exact HOU.out.w
              rw [hL] at g1
              rw [hRr] at g2
              rw [hWt] at g3
              rw [hL, hRr, hWt] at HFC
              have HUL := Lib.hid hL
              have HUR := Lib.hid hRr
              have HUW := Lib.hid hWt
              have wl : IntKind.i16.wrap L = L := by unfold IntKind.wrap; simp [IntKind.signed, IntKind.bits, IntKind.min]; omega
              have wr16 : IntKind.i16.wrap R = R := by unfold IntKind.wrap; simp [IntKind.signed, IntKind.bits, IntKind.min]; omega
              have ww : IntKind.i16.wrap Wt = Wt := by unfold IntKind.wrap; simp [IntKind.signed, IntKind.bits, IntKind.min]; omega
              have hl3 : ¬ 32767 < L := by omega
              have hr3 : ¬ 32767 < R := by omega
              have hw3 : ¬ 32767 < Wt := by omega
              have AL := Lib.hid (fun W => atoi_call (Lib.itoa L) L (by have := itoa_len7 (n := L) (by omega) (by omega); omega) (atoiAll_itoa (by omega) (by omega)) W)
              have AR := Lib.hid (fun W => atoi_call (Lib.itoa R) R (by have := itoa_len7 (n := R) (by omega) (by omega); omega) (atoiAll_itoa (by omega) (by omega)) W)
              have AW := Lib.hid (fun W => atoi_call (Lib.itoa Wt) Wt (by have := itoa_len7 (n := Wt) (by omega) (by omega); omega) (atoiAll_itoa (by omega) (by omega)) W)
              clear hL hRr hWt hbl hbr hbw
              go_wp2_with fail
              refine (AL.out w5).mono ?_
              rintro e w6 ⟨rfl, hb6⟩
              have HPM6 := Lib.hid (HPM.out.below hb6)
              clear g1 g2 g3 g4 g5 g6 g7 HPM hb6 AL
              obtain ⟨g1, g2, g3, g4, g5, g6, g7⟩ := HFC.out w6 HPM6.out.hb.block
              go_wp2_with fail
              refine (AR.out w6).mono ?_
              rintro e w7 ⟨rfl, hb7⟩
              have HPM7 := Lib.hid (HPM6.out.below hb7)
              clear g1 g2 g3 g4 g5 g6 g7 HPM6 hb7 AR
              obtain ⟨g1, g2, g3, g4, g5, g6, g7⟩ := HFC.out w7 HPM7.out.hb.block
              go_wp2_with fail
              refine (AW.out w7).mono ?_
              rintro e w8 ⟨rfl, hb8⟩
              have HPM8 := Lib.hid (HPM7.out.below hb8)
              clear g1 g2 g3 g4 g5 g6 g7 HPM7 hb8 AW
              go_upto_region 38 with fail
              obtain ⟨wA, hwA⟩ : ∃ wA, wA = w8.alloc (.cells #[.int .i16 L, .int .i16 R, .int .i16 Wt] 171) := ⟨_, rfl⟩
              have hbA : Below w8.heap.size w8 wA := by rw [hwA]; exact (Below.refl _ _).alloc (Nat.le_refl _) _
              have HPA := Lib.hid (HPM8.out.below hbA)
              have o0 : wA.cell? ⟨w8.heap.size, 0, none⟩ = some (.int .i16 L) := by rw [hwA, cell_of_heap (heap_new w8 _)]; rfl
              have o1 : wA.cell? ⟨w8.heap.size, 1, none⟩ = some (.int .i16 R) := by rw [hwA, cell_of_heap (heap_new w8 _)]; rfl
              have o2 : wA.cell? ⟨w8.heap.size, 2, none⟩ = some (.int .i16 Wt) := by rw [hwA, cell_of_heap (heap_new w8 _)]; rfl
              rw [← hwA]
              obtain ⟨g1, g2, g3, g4, g5, g6, g7⟩ := HFC.out wA HPA.out.hb.block
              clear hwA hbA HPM8 g1 g2 g3 g4 g5 g6
              generalize w8.heap.size = bm at o0 o1 o2 ⊢
              obtain ⟨vM, vC, hrow, hRM, hRC⟩ := HPA.out.row
              have htm : ((T.take k).map moU).length = k := by rw [List.length_map, List.length_take, HTL.out]; omega
              have htc : ((inner.take k).map tailV).length = k := by rw [List.length_map, List.length_take, HRA.out.len, List.length_map, HTL.out]; omega
              obtain ⟨AM, cM, hvM⟩ := Kd.R_slice hRM
              obtain ⟨AC', cC', hvC'⟩ := Kd.R_slice hRC
              rw [htm] at hvM
              rw [htc] at hvC'
              subst hvM hvC'
              have hsA : Bs ≤ wA.heap.size := Nat.le_trans HPA.out.hB.2.2.2.2 HPA.out.hb.size
              have hBp := HPA.out.hB.1
              have p0 : wA.cell? ⟨p, 0, none⟩ = some (.slice AM k cM) := by rw [cell_of_heap hrow]; rfl
              have pf0 : wA.frozen? ⟨p, 0, none⟩ = false := frozen_of_heap hrow 0
              have HTM := Lib.hid htm
              have HTC := Lib.hid htc
              have HRW := Lib.hid hrow
              have HRM := Lib.hid hRM
              have HRC := Lib.hid hRC
              have HMB := Lib.hid (fun q e => ((own_lt (Kd.R_own hRM).choose_spec q e) : q < wA.heap.size))
              clear hrow hRM hRC htm htc
              go_upto_region 39 with (first
                | (at_builtin; refine kapp (w0 := wA) kMo Bs rfl _ _ 114 171 (.agg #[.int .i16 0, .int .i16 0, .int .i16 0]) 6 rfl Tryd.underlying114 mo_info rfl (by decide) (by decide) _ ((T.take k).map moU) (L, R, Wt) [.int .i16 L, .int .i16 R, .int .i16 Wt] (fun q => q ≠ p) (fun _ => False) wA.heap.size rfl rfl (by intro q u hq; rw [cell_of_heap (heap_new _ _)]; simpa using hq) (mo_M _ _ _ _ _ _) (fun _ h => h.elim) (fun q hq => by have := lt_of_heap HRW.out; simp at hq; omega) (Kd.R_alloc HRM.out _) ((Below.refl _ _).alloc (by omega) _) (by simp; omega) (by rw [HTM.out]; omega) ?_)
                | fail)
              intro v9 w9 hR9 hB9 hg9 hat9
              have hplA := lt_of_heap HRW.out
              have hbx : Below wA.heap.size wA (wA.alloc (.cells #[.int .i16 L, .int .i16 R, .int .i16 Wt] 171)) := (Below.refl _ wA).alloc (Nat.le_refl _) _
              have hrow9 := (hg9.block p (by simp; omega) (fun e => HRM.out.1 p e.symm rfl)).trans ((hbx.block p hplA).trans HRW.out)
              have hRC9 := Kd.R_over (Kd.R_alloc HRC.out (.cells #[.int .i16 L, .int .i16 R, .int .i16 Wt] 171)) (Kd.R_alloc HRM.out (.cells #[.int .i16 L, .int .i16 R, .int .i16 Wt] 171)) (show ∀ q, q ∈ [29] → q ≠ 171 by decide) hg9
              have HME9 := Lib.hid (show MidR T Bs m1 m2 m3 k wA w9 from ⟨hB9, fun m hm hc => by
                obtain ⟨es, cl, hx⟩ := hc
                have h1 := (hbx.block m (lt_of_heap hx)).trans hx
                refine ⟨es, cl, hx, (hg9.block m (lt_of_heap h1) (fun e => ?_)).trans h1⟩
                obtain ⟨cur, hh⟩ := own_heap (Kd.R_own (Kd.R_alloc HRM.out (.cells #[.int .i16 L, .int .i16 R, .int .i16 Wt] 171))).choose_spec e.symm
                rw [h1] at hh
                cases hh⟩)
              replace p0 : w9.cell? ⟨p, 0, none⟩ = some (.slice AM k cM) := by rw [cell_of_heap hrow9]; rfl
              replace pf0 : w9.frozen? ⟨p, 0, none⟩ = false := frozen_of_heap hrow9 0
              obtain ⟨A9, c9, hv9⟩ : ∃ A c, v9 = .slice A (k + 1) c := by
                obtain ⟨A, c, h⟩ := Kd.R_slice hR9
                refine ⟨A, c, h.trans ?_⟩
                congr 1
                have := HTL.out
                simp
                omega
              subst hv9
              have HR9 := Lib.hid hR9
              have HRW9 := Lib.hid hrow9
              have HRC9 := Lib.hid hRC9
              clear hR9 hB9 hg9 hat9 hrow9 hRC9 hbx o0 o1 o2
              go_upto_region 39 with fail
              obtain ⟨wB, hwB⟩ : ∃ wB, wB = w9.setCell ⟨p, 0, none⟩ (.slice A9 (k + 1) c9) := ⟨_, rfl⟩
              have hbB : Below Bs wA wB := by rw [hwB]; exact HME9.out.hb.setCell (p := ⟨p, 0, none⟩) hBp _
              have hrowB : wB.heap[p]? = some (.cells #[.slice A9 (k + 1) c9, .map (some m1), .map (some m2), .map (some m3), .slice AC' k cC'] tUnk (0, 0)) := by
                rw [hwB, heap_set HRW9.out]
                rfl
              have HRMB := Lib.hid (show kMo.R 171 wB Bs (fun q => q ≠ p) (.slice A9 (k + 1) c9) ((T.take k).map moU ++ [(L, R, Wt)]) by rw [hwB, List.map_take]; exact Kd.R_far HR9.out (p := ⟨p, 0, none⟩) (fun q hq => hq) _)
              have HRCB := Lib.hid (show kV.R 29 wB Bs (fun q => q ≠ p) (.slice AC' k cC') ((inner.take k).map tailV) by rw [hwB]; exact Kd.R_far HRC9.out (p := ⟨p, 0, none⟩) (fun q hq => hq) _)
              have HMEB := Lib.hid (show MidR T Bs m1 m2 m3 k wA wB from ⟨hbB, fun m hm hc => by
                obtain ⟨es, cl, h1, h2⟩ := HME9.out.ms m hm hc
                refine ⟨es, cl, h1, ?_⟩
                rw [hwB, heap_set_ne (fun e => ?_)]
                · exact h2
                · rw [e, HRW9.out] at h2; cases h2⟩)
              rw [← hwB]
              clear hwB HR9 HRC9 HRW9 HME9 p0 pf0 HRM HRC
              have hsB : Bs ≤ wB.heap.size := Nat.le_trans hsA hbB.size
              have p4 : wB.cell? ⟨p, 4, none⟩ = some (.slice AC' k cC') := by rw [cell_of_heap hrowB]; rfl
              have pf4 : wB.frozen? ⟨p, 4, none⟩ = false := frozen_of_heap hrowB 4
              have p4' : ∀ o, (wB.alloc o).cell? ⟨p, 4, none⟩ = some (.slice AC' k cC') := fun o => by rw [cell_of_heap (heap_old hrowB o)]; rfl
              have hbW : ∀ q, q < Bs → wB.heap[q]? = w3.heap[q]? := fun q hq => (hbB.block q hq).trans (HPA.out.hb.block q hq)
              obtain ⟨g1, g2, g3, g4, g5, g6, g7⟩ := HFC.out wB hbW
              have HRWB := Lib.hid hrowB
              have HBW := Lib.hid hbW
              clear g1 g2 g3 g4 g5 g6 hrowB hbB hbW
              have htc : ((inner.take k).map tailV).length = k := HTC.out
              have hc64 : ¬ c6 = 4 := by omega
              go_wp2_with fail
              go_region_law (first | (refine app39 (Value.slice (some ⟨ab, 4, none⟩) 2 (c6 - 4)) rfl (by rfl) (.tmp 162) (.tmp 169) rfl HRWB HRMB HRCB HMEB HTC (by omega) hsB rfl rfl ?_; intro A11 c11 w11 HO q4 qf4))
              all_goals
                have HNX := Lib.hid (HO.out.done HPA.out (by rw [HT1.out, List.map_append, List.map_cons, List.map_nil]; unfold moU; rw [HUL.out, HUR.out, HUW.out]) (by rw [HT2.out, List.map_append]; rfl))
                have hkn : k + 1 ≤ N := hlt
                clear HO HPA HFC HRWB HRMB HRCB HMEB HBW HTC HTM HT1 HT2 HUL HUR HUW q4 qf4 g7 p4 p4' pf4
                go_wp2
                go_roundw
                case rel => exact ⟨k + 1, hkn, by go_num, HNX⟩
                case measure => simp [intOf]; omega
          · have hne : (ns[j].toList == ns[ci].toList) = false := by
              rw [beq_eq_false_iff_ne]
              intro e
              exact hjc (nodup_inj HND.out (ba_toList e))
            have hj2 : j + 1 ≤ ci := by omega
            clear hjc
            go_wp2
            go_roundw
            case rel => exact ⟨j + 1, hj2, by go_num, rfl, (by first | rfl | trivial)⟩
            case measure => simp [intOf]; omega
      · obtain rfl : k = N := by omega
        have HF := Lib.hid (show UnkD T p wr from by
          have h1 := HP.out
          rw [← HTL.out] at h1
          exact h1.fin HRA.out (fun q hq => HRB.out q hq.2.2.1) HTO.out)
        have HL := Lib.hid (HL3.out.trans (HP.out.hb.mono HBK.out))
        have hpb : base ≤ p := Nat.le_trans HBK.out HP.out.hB.1
        clear HP
        go_wp2
        go_ret2
        exact ⟨p, rfl, HF.out, hpb, HL.out⟩
end Go.Proofs.YteoljiclmhmbnaaDoor.Tx

/-
  impl.unkBack: what its loops keep.
-/
set_option linter.unusedVariables false
set_option linter.unusedSimpArgs false
namespace Go.Proofs.YteoljiclmhmbnaaDoor.Tx
open Go Go.RowKit Go.Proofs.YteoljiclmhmbnaaDoor.K Go.Proofs.YteoljiclmhmbnaaDoorW.PrintWords Go.Proofs.YteoljiclmhmbnaaDoor.Mi Go.Maps

abbrev tUn : Nat := 60
def zU : ChU := (0, 0, 0, 0, (none, 0, 0))
/-- A block that holds entries as they are. -/
def BufU (g : Nat) (raws : List ChU) (w : World) : Prop := w.heap[g]? = some (.cells (raws.flatMap encU).toArray tUn (0, 0))
theorem flat_getU : ∀ (l : List ChU) (j : Nat) (hj : j < l.length), (l.flatMap encU)[5 * j]? = some (.int .i64 l[j].1) ∧ (l.flatMap encU)[5 * j + 1]? = some (.int .i64 l[j].2.1) ∧ (l.flatMap encU)[5 * j + 2]? = some (.int .i64 l[j].2.2.1) ∧ (l.flatMap encU)[5 * j + 3]? = some (.int .i64 l[j].2.2.2.1) ∧ (l.flatMap encU)[5 * j + 4]? = some (slV l[j].2.2.2.2)
  | [], j, hj => by simp at hj
  | m :: r, 0, hj => ⟨rfl, rfl, rfl, rfl, rfl⟩
  | m :: r, j + 1, hj => by
    have := flat_getU r j (by simpa using hj)
    rw [show 5 * (j + 1) = 5 * j + 1 + 1 + 1 + 1 + 1 by omega]
    exact this
theorem BufU.cells {g : Nat} {raws : List ChU} {w : World} (h : BufU g raws w) {j : Nat} (hj : j < raws.length) : w.cell? ⟨g, j * 5, none⟩ = some (.int .i64 raws[j].1) ∧ w.cell? ⟨g, j * 5 + 1, none⟩ = some (.int .i64 raws[j].2.1) ∧ w.cell? ⟨g, j * 5 + 2, none⟩ = some (.int .i64 raws[j].2.2.1) ∧
    w.cell? ⟨g, j * 5 + 3, none⟩ = some (.int .i64 raws[j].2.2.2.1) ∧ w.cell? ⟨g, j * 5 + 4, none⟩ = some (slV raws[j].2.2.2.2) := by
  have hg := flat_getU raws j hj
  rw [Nat.mul_comm j 5]
  simp only [cell_of_heap h, List.getElem?_toArray]
  exact hg
theorem BufU.set {g : Nat} {raws : List ChU} {w : World} (h : BufU g raws w) {j : Nat} (hj : j < raws.length) (x : ChU) :
    BufU g (raws.set j x) (((((w.setCell ⟨g, j * 5, none⟩ (.int .i64 x.1)).setCell ⟨g, j * 5 + 1, none⟩ (.int .i64 x.2.1)).setCell ⟨g, j * 5 + 2, none⟩ (.int .i64 x.2.2.1)).setCell ⟨g, j * 5 + 3, none⟩ (.int .i64 x.2.2.2.1)).setCell ⟨g, j * 5 + 4, none⟩ (slV x.2.2.2.2)) := by
  unfold BufU at h ⊢
  rw [heap_set (heap_set (heap_set (heap_set (heap_set h _ _) _ _) _ _) _ _) _ _, ← flat_setU raws j x hj, Nat.mul_comm j 5]
  simp only [List.setIfInBounds_toArray]
theorem BufU.cls {g : Nat} {raws : List ChU} {w : World} (h : BufU g raws w) {j : Nat} (hj : j < raws.length) (c : Int) : BufU g (raws.set j (c, raws[j].2)) (w.setCell ⟨g, j * 5, none⟩ (.int .i64 c)) := by
  unfold BufU at h ⊢
  obtain ⟨_, h1, h2, h3, h4⟩ := flat_getU raws j hj
  rw [heap_set h, ← flat_setU raws j (c, raws[j].2) hj, Nat.mul_comm j 5]
  simp only [List.setIfInBounds_toArray]
  congr 3
  have e : ∀ (l : List Value) (i : Nat) (v : Value), l[i]? = some v → l.set i v = l := fun l i v hv => by
    obtain ⟨hi, hv⟩ := List.getElem?_eq_some_iff.1 hv
    rw [← hv, List.set_getElem_self]
  rw [e _ (5 * j + 1) _ (by rw [List.getElem?_set_ne (by omega)]; exact h1), e _ (5 * j + 2) _ (by rw [List.getElem?_set_ne (by omega)]; exact h2), e _ (5 * j + 3) _ (by rw [List.getElem?_set_ne (by omega)]; exact h3), e _ (5 * j + 4) _ (by rw [List.getElem?_set_ne (by omega)]; exact h4)]
theorem madeU (N : Nat) : madeCells #[.int .i64 0, .int .i64 0, .int .i64 0, .int .i64 0, .slice none 0 0] (N * 5) = ((List.replicate N zU).flatMap encU).toArray := by
  apply Array.ext
  · rw [size_madeCells, List.size_toArray, flat_lenU, List.length_replicate, Nat.mul_comm]
  · intro j h1 h2
    rw [size_madeCells] at h1
    obtain ⟨q, r, rfl, hr⟩ : ∃ q r, j = 5 * q + r ∧ r < 5 := ⟨j / 5, j % 5, by omega, by omega⟩
    have hq : q < (List.replicate N zU).length := by rw [List.length_replicate]; omega
    obtain ⟨e0, e1, e2, e3, e4⟩ := flat_getU (List.replicate N zU) q hq
    have hm : (5 * q + r) % 5 = r := by omega
    simp only [madeCells, Array.getElem_map, Array.getElem_range, List.getElem_toArray]
    rw [List.getElem_replicate] at e0 e1 e2 e3 e4
    have key : ∀ v, ((List.replicate N zU).flatMap encU)[5 * q + r]? = some v → ((List.replicate N zU).flatMap encU)[5 * q + r]'(by simpa using h2) = v := fun v hv => by
      obtain ⟨_, hv⟩ := List.getElem?_eq_some_iff.1 hv
      exact hv
    have hs : (#[Value.int .i64 0, .int .i64 0, .int .i64 0, .int .i64 0, .slice none 0 0] : Array Value).size = 5 := rfl
    rw [hs, hm]
    rcases r with _ | _ | _ | _ | _ | r
    · rw [key _ e0]; rfl
    · rw [key _ e1]; rfl
    · rw [key _ e2]; rfl
    · rw [key _ e3]; rfl
    · rw [key _ e4]; rfl
    · omega
theorem make_un (N : Nat) (hN : N ≤ 1000000) (W : World) : (Instr.makeSlice 55 (.int .i64 N) (.int .i64 N)).run Tryd.prog W = .ok (.slice (some ⟨W.heap.size, 0, none⟩) N N) (W.alloc (.cells ((List.replicate N zU).flatMap encU).toArray tUn)) := by
  obtain ⟨i, hi, hii⟩ := Option.map_eq_some_iff.1 (show (Tryd.prog.info? tUn).map (fun i => (i.zero, i.size, i.bytes)) = some (some (.agg #[.int .i64 0, .int .i64 0, .int .i64 0, .int .i64 0, .slice none 0 0]), 5, 56) by kernel_rfl)
  simp only [Prod.mk.injEq] at hii
  obtain ⟨hz, hsz, hby⟩ := hii
  have := run_make (P := Tryd.prog) W 55 tUn i _ Tryd.underlying55 hi hz .i64 .i64 N N (by omega) (by omega) (by rw [hby]; omega) (by omega)
  rw [this, hsz, ← madeU]
  rfl

/-- The entries so far: the first k are there, with classes cf; nothing stands behind them. -/
structure UB (T : List Un) (cf : Nat → Int) (k g : Nat) (w wr : World) : Prop where
  hb : Below w.heap.size w wr
  hg : w.heap.size ≤ g
  buf : ∃ raws, raws.length = T.length ∧ BufU g raws wr ∧ (∀ i (hi : i < T.length), i < k → ∃ (a : Addr) (cc : Nat), raws[i]? = some (cf i, T[i].2.1, T[i].2.2.1, T[i].2.2.2.1, (some a, (tailU T[i]).length, cc)) ∧ (tailU T[i]).length ≤ cc ∧ a.block ≠ g ∧ Kd.string.C wr (some a) (tailU T[i]).length (tailU T[i])) ∧
    (∀ i, k ≤ i → i < T.length → raws[i]? = some zU)
theorem UB.zero {T : List Un} {cf : Nat → Int} {w wr : World} (h : Below w.heap.size w wr) : UB T cf 0 wr.heap.size w (wr.alloc (.cells ((List.replicate T.length zU).flatMap encU).toArray tUn)) :=
  ⟨h.alloc h.size _, h.size, List.replicate T.length zU, List.length_replicate, heap_new _ _, fun i _ h => by omega, fun i _ h => by rw [List.getElem?_replicate, if_pos h]⟩
theorem strC_blk {w : World} {a : Addr} {n : Nat} {xs : List ByteArray} (h : Kd.string.C w (some a) n xs) (hn : 0 < n) : a.block < w.heap.size := by
  obtain ⟨ad, ha, hc⟩ := strs_at h 0 (by have := h.1; omega)
  cases ha
  have hz : a.add 0 = a := by unfold Addr.add; simp
  rw [hz] at hc
  exact World.block_lt_of_cell? _ _ hc
theorem UB.below {T : List Un} {cf : Nat → Int} {k g : Nat} {w wr w1 : World} (h : UB T cf k g w wr) (hb : Below wr.heap.size wr w1) : UB T cf k g w w1 := by
  obtain ⟨raws, h1, h2, h3, h4⟩ := h.buf
  refine ⟨h.hb.trans (hb.mono h.hb.size), h.hg, raws, h1, (hb.block g (lt_of_heap h2)).trans h2, fun i hi hk => ?_, h4⟩
  obtain ⟨a, cc, e1, e2, e3, e4⟩ := h3 i hi hk
  exact ⟨a, cc, e1, e2, e3, Kd.C_below e4 hb⟩
theorem UB.lt {T : List Un} {cf : Nat → Int} {k g : Nat} {w wr : World} (h : UB T cf k g w wr) : g < wr.heap.size := by
  obtain ⟨raws, h1, h2, _⟩ := h.buf
  exact lt_of_heap h2
theorem UB.grown {T : List Un} {cf : Nat → Int} {k g r : Nat} {w wr w1 : World} (h : UB T cf k g w wr) (hg : wr.grownBy w1 (some r)) (hr : ∃ o, wr.heap[r]? = some o ∧ ∀ cs t f, o ≠ Obj.cells cs t f) (hrw : w.heap.size ≤ r) (hne : ∀ i (hi : i < T.length), 0 < (tailU T[i]).length) : UB T cf k g w w1 := by
  obtain ⟨raws, h1, h2, h3, h4⟩ := h.buf
  obtain ⟨o, hr, hro⟩ := hr
  have key : ∀ (b : Nat) (cs : Array Value) (t : TypeId) (f : Nat × Nat), wr.heap[b]? = some (.cells cs t f) → w1.heap[b]? = wr.heap[b]? := fun b cs t f hb => hg.block b (lt_of_heap hb) (fun e => by
    rw [Option.some.inj e] at hb
    rw [hr] at hb
    exact hro _ _ _ (Option.some.inj hb))
  refine ⟨h.hb.grown hg h.hb.size (fun q hq => by cases hq; exact hrw), h.hg, raws, h1, (key g _ _ _ h2).trans h2, fun i hi hk => ?_, h4⟩
  obtain ⟨a, cc, e1, e2, e3, e4⟩ := h3 i hi hk
  refine ⟨a, cc, e1, e2, e3, strC_hold e4 ?_⟩
  obtain ⟨ad, ha, hc⟩ := strs_at e4 0 (hne i hi)
  cases ha
  unfold World.cell? at hc
  have hz : (a.add 0).block = a.block := by unfold Addr.add; split <;> rfl
  rw [hz] at hc
  cases ho : wr.heap[a.block]? with
  | none => rw [ho] at hc; simp at hc
  | some ob =>
    cases ob with
    | cells cs t f => rw [key _ _ _ _ ho, ho]
    | _ => rw [ho] at hc; simp at hc
/-- An entry is laid. -/
theorem UB.put {T : List Un} {cf : Nat → Int} {k g : Nat} {w wr : World} (h : UB T cf k g w wr) (hk : k < T.length) {a : Addr} {cc : Nat} (hc : (tailU T[k]).length ≤ cc) (hab : a.block ≠ g) (hC : Kd.string.C wr (some a) (tailU T[k]).length (tailU T[k])) :
    UB T cf (k + 1) g w (((((wr.setCell ⟨g, k * 5, none⟩ (.int .i64 (cf k))).setCell ⟨g, k * 5 + 1, none⟩ (.int .i64 T[k].2.1)).setCell ⟨g, k * 5 + 2, none⟩ (.int .i64 T[k].2.2.1)).setCell ⟨g, k * 5 + 3, none⟩ (.int .i64 T[k].2.2.2.1)).setCell ⟨g, k * 5 + 4, none⟩ (.slice (some a) (tailU T[k]).length cc)) := by
  obtain ⟨raws, h1, h2, h3, h4⟩ := h.buf
  have hs := h2.set (j := k) (by omega) (cf k, T[k].2.1, T[k].2.2.1, T[k].2.2.2.1, (some a, (tailU T[k]).length, cc))
  have hne : ∀ q, q ≠ g → (((((wr.setCell ⟨g, k * 5, none⟩ (.int .i64 (cf k))).setCell ⟨g, k * 5 + 1, none⟩ (.int .i64 T[k].2.1)).setCell ⟨g, k * 5 + 2, none⟩ (.int .i64 T[k].2.2.1)).setCell ⟨g, k * 5 + 3, none⟩ (.int .i64 T[k].2.2.2.1)).setCell ⟨g, k * 5 + 4, none⟩ (.slice (some a) (tailU T[k]).length cc)).heap[q]? = wr.heap[q]? := fun q hq => by
    rw [heap_set_ne hq, heap_set_ne hq, heap_set_ne hq, heap_set_ne hq, heap_set_ne hq]
  refine ⟨((((h.hb.setCell (p := ⟨g, k * 5, none⟩) h.hg _).setCell (p := ⟨g, k * 5 + 1, none⟩) h.hg _).setCell (p := ⟨g, k * 5 + 2, none⟩) h.hg _).setCell (p := ⟨g, k * 5 + 3, none⟩) h.hg _).setCell (p := ⟨g, k * 5 + 4, none⟩) h.hg _, h.hg, _, by rw [List.length_set]; exact h1, hs, fun i hi hik => ?_, fun i hi hl => ?_⟩
  · by_cases e : i = k
    · subst e
      exact ⟨a, cc, by rw [List.getElem?_set_self (by omega)], hc, hab, strC_hold hC (hne _ hab)⟩
    · obtain ⟨a', cc', e1, e2, e3, e4⟩ := h3 i hi (by omega)
      exact ⟨a', cc', by rw [List.getElem?_set_ne (fun x => e x.symm)]; exact e1, e2, e3, strC_hold e4 (hne _ e3)⟩
  · rw [List.getElem?_set_ne (by omega)]
    exact h4 i (by omega) hl
/-- A class is laid. -/
theorem UB.cls {T : List Un} {cf : Nat → Int} {g : Nat} {w wr : World} (h : UB T cf T.length g w wr) {i : Nat} (hi : i < T.length) (c : Int) : UB T (fun j => if j = i then c else cf j) T.length g w (wr.setCell ⟨g, i * 5, none⟩ (.int .i64 c)) := by
  obtain ⟨raws, h1, h2, h3, h4⟩ := h.buf
  have hs := h2.cls (j := i) (by omega) c
  have hne : ∀ q, q ≠ g → (wr.setCell ⟨g, i * 5, none⟩ (.int .i64 c)).heap[q]? = wr.heap[q]? := fun q hq => heap_set_ne hq _ _
  refine ⟨h.hb.setCell (p := ⟨g, i * 5, none⟩) h.hg _, h.hg, _, by rw [List.length_set]; exact h1, hs, fun j hj hjk => ?_, fun j hl hj => by omega⟩
  obtain ⟨a', cc', e1, e2, e3, e4⟩ := h3 j hj hjk
  refine ⟨a', cc', ?_, e2, e3, strC_hold e4 (hne _ e3)⟩
  by_cases e : j = i
  · subst e
    rw [List.getElem?_set_self (by omega), if_pos rfl]
    have : raws[j] = (cf j, T[j].2.1, T[j].2.2.1, T[j].2.2.2.1, (some a', (tailU T[j]).length, cc')) := by
      rw [List.getElem?_eq_getElem (by omega)] at e1
      exact Option.some.inj e1
    rw [this]
  · rw [List.getElem?_set_ne (fun x => e x.symm), if_neg e]
    exact e1
theorem UB.ext {T : List Un} {cf cf' : Nat → Int} {k g : Nat} {w wr : World} (h : UB T cf k g w wr) (he : ∀ i, i < T.length → cf i = cf' i) : UB T cf' k g w wr := by
  obtain ⟨raws, h1, h2, h3, h4⟩ := h.buf
  refine ⟨h.hb, h.hg, raws, h1, h2, fun i hi hk => ?_, h4⟩
  rw [← he i hi]
  exact h3 i hi hk
/-- All entries are there. -/
theorem UB.fin {T : List Un} {cf : Nat → Int} {g : Nat} {w wr : World} (h : UB T cf T.length g w wr) (hc : ∀ i (hi : i < T.length), cf i = T[i].1) (hN : T.length ≤ 1000000) : kUn.C wr (some ⟨g, 0, none⟩) T.length T := by
  obtain ⟨raws, h1, h2, h3, _⟩ := h.buf
  refine ⟨rfl, by omega, fun _ => ⟨_, rfl, fun j u hj => ?_⟩⟩
  have hjl := (List.getElem?_eq_some_iff.1 hj).1
  have hju : T[j] = u := by rw [List.getElem?_eq_getElem hjl] at hj; exact Option.some.inj hj
  obtain ⟨a, cc, e1, e2, e3, e4⟩ := h3 j hjl hjl
  have hr : raws[j]'(by omega) = (cf j, T[j].2.1, T[j].2.2.1, T[j].2.2.2.1, (some a, (tailU T[j]).length, cc)) := by
    rw [List.getElem?_eq_getElem (by omega)] at e1
    exact Option.some.inj e1
  obtain ⟨c0, c1, c2, c3, c4⟩ := h2.cells (j := j) (by omega)
  rw [hr] at c0 c1 c2 c3 c4
  rw [hc j hjl] at c0
  rw [hju] at c0 c1 c2 c3 c4 e2 e4
  refine ⟨[.int .i64 u.1, .int .i64 u.2.1, .int .i64 u.2.2.1, .int .i64 u.2.2.2.1, .slice (some a) (tailU u).length cc], rfl, ⟨_, _, rfl, rfl, _, _, rfl, rfl, _, _, rfl, rfl, _, _, rfl, rfl, some a, cc, rfl, e2, e4⟩, fun i v hv => ?_⟩
  have e5 : kUn.sz = 5 := rfl
  rw [e5, add_plain]
  match i with
  | 0 => cases hv; rw [Nat.add_zero]; exact c0
  | 1 => cases hv; exact c1
  | 2 => cases hv; exact c2
  | 3 => cases hv; exact c3
  | 4 => cases hv; exact c4
  | n + 5 => simp at hv
end Go.Proofs.YteoljiclmhmbnaaDoor.Tx
