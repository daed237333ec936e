/-
  The text of a tree of features; the walk of filterString.
-/
import Derived.Test.YtjifoimkjgepcaaXa
import Derived.Test.YtjifoimkjgepcaaFltA
import Derived.RegionTactic
import Derived.BigRegion
import Derived.Outline
import Derived.Deep.RegionHeld3
set_option linter.unusedVariables false
set_option linter.unusedSimpArgs false
namespace Go.Proofs.Ytjifoimkjgepcaa.Flt
open Go.RowKit Go.Proofs.Ytjifoimkjgepcaa.K Go.Proofs.Ytjifoimkjgepcaa.Fx Go.Proofs.YtjifoimkjgepcaaW.PrintWords

/-- The blanks ahead of a line. -/
def sp (k : Nat) : List UInt8 := Lib.repeatL [32, 32] k
mutual
def textT : Nat → FT → List UInt8
  | k, .mk l => textK k l
def textK : Nat → List (ByteArray × FT) → List UInt8
  | _, [] => []
  | k, (n, t) :: r => sp k ++ n.data.toList ++ [10] ++ textT (k + 1) t ++ textK k r
end
theorem textK_append (k : Nat) : ∀ a b, textK k (a ++ b) = textK k a ++ textK k b
  | [], b => by simp [textK]
  | (n, t) :: r, b => by rw [List.cons_append, textK, textK, textK_append k r b]; simp only [List.append_assoc]
theorem textT_kids (k : Nat) (t : FT) : textT k t = textK k t.kids := by cases t; simp [textT, FT.kids]
theorem builder_below {B b : Nat} {bs : List Value} {w w' : World} (h : Lib.IsBuilder tBd tU8 B b bs w) (hb : Below w.heap.size w w') : Lib.IsBuilder tBd tU8 B b bs w' := by
  have key : ∀ p, Lib.BuilderAt tBd tU8 B b p bs w → Lib.BuilderAt tBd tU8 B b p bs w' := by
    rintro p ⟨hB, v, hbk, hown, hne⟩
    exact ⟨hB, v, (hb.block b (lt_of_heap hbk)).trans hbk, own_keep hown (fun k hk => hb.block k (World.ownsRow.lt hown k hk).2), hne⟩
  exact h.imp (key _) (key _)
theorem hid_b {B : Nat} {w0 w : World} (h : Hid (Below B w0 w)) : Hid (Below B w0 w.drew) := Lib.hid h.out.drew
theorem sp_length (k : Nat) : (sp k).length = 2 * k := by unfold sp; rw [Lib.repeatL_length]; simp [Nat.mul_comm]
theorem repeat_any (k : Nat) (w : World) (hk : k ≤ 1000000) : Calls Try.prog 93 #[.string ⟨#[32, 32]⟩, .int .i64 k] w fun e w' => e = .returned (.string ⟨(sp k).toArray⟩) ∧ Below w.heap.size w w' :=
  Try.strings_Repeat ⟨#[32, 32]⟩ k w (by omega) (by show 2 * k ≤ _; omega)
theorem kids_lt {d : DT} {j : Nat} (h : j < d.kids.length) : (d.kids[j].2).nodes.length < d.nodes.length := by
  rw [nodes_eq d, List.length_cons]
  have : ∀ (l : List (ByteArray × DT)) (j : Nat) (h : j < l.length), (l[j].2).nodes.length ≤ (DT.nodesL l).length := by
    intro l
    induction l with
    | nil => intro j h; simp at h
    | cons x r ih =>
      intro j h
      obtain ⟨n, e⟩ := x
      rw [DT.nodesL, List.length_append]
      cases j with
      | zero => simp
      | succ j => have := ih j (by simpa using h); simp only [List.getElem_cons_succ]; omega
  have := this d.kids j h
  omega
theorem kids_sub {d : DT} {j : Nat} (h : j < d.kids.length) : ∀ x ∈ (d.kids[j].2).nodes, x ∈ d.nodes := by
  intro x hx
  rw [nodes_eq d]
  refine List.mem_cons_of_mem _ ?_
  have : ∀ (l : List (ByteArray × DT)) (j : Nat) (h : j < l.length), ∀ x ∈ (l[j].2).nodes, x ∈ DT.nodesL l := by
    intro l
    induction l with
    | nil => intro j h; simp at h
    | cons y r ih =>
      intro j h x hx
      obtain ⟨n, e⟩ := y
      rw [DT.nodesL, List.mem_append]
      cases j with
      | zero => exact .inl (by simpa using hx)
      | succ j => exact .inr (ih j (by simpa using h) x (by simpa using hx))
  exact this d.kids j h x hx
theorem keepE {p : Nat} {nm : ByteArray} {w0 w' : World} (h0 : w0.cell? ⟨p, 0, none⟩ = some (.string nm)) (h : Hid (Below w0.heap.size w0 w')) : w'.cell? ⟨p, 0, none⟩ = some (.string nm) ∧ Hid (Below w0.heap.size w0 w') :=
  ⟨(h.out.cell (World.block_lt_of_cell? w0 _ h0)).trans h0, h⟩
theorem builder_tr {B b : Nat} {bs : List Value} {w wd wz : World} (h : Lib.IsBuilder tBd tU8 B b bs w) (hd : wd.heap = w.heap) (hb : Below wd.heap.size wd wz) : Lib.IsBuilder tBd tU8 B b bs wz := by
  refine builder_below (w := wd) ?_ hb
  have key : ∀ p, Lib.BuilderAt tBd tU8 B b p bs w → Lib.BuilderAt tBd tU8 B b p bs wd := by
    rintro p ⟨hB, v, hbk, hown, hne⟩
    exact ⟨hB, v, by rw [hd]; exact hbk, own_keep hown (fun k hk => by rw [hd]), hne⟩
  exact h.imp (key _) (key _)
theorem hid_tr {w0 w w' : World} (h : Hid (Below w0.heap.size w0 w)) (hb : Below w.heap.size w w') : Below w0.heap.size w0 w' := h.out.trans (hb.mono h.out.size)
set_option maxHeartbeats 400000 in
set_option maxRecDepth 100000 in
theorem fstr_any (base B b : Nat) (w0 : World) : ∀ (m : Nat) (d : DT) (k : Nat) (bs : List UInt8) (w : World), d.nodes.length ≤ m → (∀ x ∈ d.nodes, NodeOK w0 base x) → Below w0.heap.size w0 w → Lib.IsBuilder tBd tU8 B b (Lib.byteCells bs) w →
    bs.length + (textT k d.strip).length ≤ 140737488355328 → k + m ≤ 100000 → B ≤ w.heap.size → w0.heap.size ≤ B →
    Calls Try.prog 60 #[.pointer (some ⟨b, 0, none⟩), .int .i64 k, .pointer (some ⟨d.b, 0, none⟩)] w fun e w' => e = .returned (.tuple #[]) ∧ Lib.IsBuilder tBd tU8 B b (Lib.byteCells (bs ++ textT k d.strip)) w' ∧ Below w0.heap.size w0 w' := by
  intro m
  induction m with
  | zero =>
    intro d k bs w hm
    rw [nodes_eq] at hm
    simp at hm
  | succ m ih =>
    intro d k bs w hm hok hb hbd hlen hk hBw hB0
    have hnode : NodeOK w0 base ⟨d.b, d.v, ends d.kids⟩ := hok _ (by rw [nodes_eq]; exact List.mem_cons_self ..)
    obtain ⟨A, c, hv, hF, hA, hc, hfz⟩ := hnode.reads
    have hc' : w.cell? ⟨d.b, 0, none⟩ = some (.slice A (ends d.kids).length c) := (hb.cell (World.block_lt_of_cell? w0 _ hc)).trans hc
    have HF := Lib.hid hF
    have HOK := Lib.hid hok
    have HB := Lib.hid hb
    have HBD := Lib.hid hbd
    have hel : (ends d.kids).length = d.kids.length := by simp [ends]
    rw [hel] at hc'
    have HEL := Lib.hid hel
    have hkm : d.kids.length ≤ 9223372036854775807 := by have := hF.1; rw [hel] at this; simpa [maxLen] using this
    rw [textT_kids] at hlen ⊢
    rw [strip_kids] at hlen ⊢
    obtain ⟨ks, hks⟩ : ∃ ks, ks = d.kids.map fun x => (x.1, x.2.strip) := ⟨_, rfl⟩
    rw [← hks] at hlen ⊢
    have hkl : ks.length = d.kids.length := by rw [hks, List.length_map]
    have HKS := Lib.hid hks
    have HKL := Lib.hid hkl
    have HLEN := Lib.hid hlen
    have HM := Lib.hid hm
    clear hnode hF hA hc hok hb hbd hel hks hkl hlen hm
    go_enter Try.func60, Try.ntmps60
    go_wp2_with fail
    go_loopw [13] (fun i wr => ∃ j : Nat, j ≤ d.kids.length ∧ i = .int .i64 j ∧ Hid (Lib.IsBuilder tBd tU8 B b (Lib.byteCells (bs ++ textK k (ks.take j))) wr) ∧ Hid (Below w0.heap.size w0 wr) ∧ B ≤ wr.heap.size) (fun i _ => d.kids.length - (intOf i).toNat)
    case atStart => exact ⟨0, Nat.zero_le _, rfl, Lib.hid (by simpa [textK] using HBD.out), HB, hBw⟩
    case round =>
      obtain ⟨j, hj, rfl, HBr, HWr, hsz⟩ := hrel
      by_cases hlt : j < d.kids.length
      · obtain ⟨g, p, rfl, h1, h2, h3⟩ := (HF.out.below HWr.out).2 j (by rw [HEL.out]; exact hlt)
        have hje : j < (ends d.kids).length := by rw [HEL.out]; exact hlt
        have h0p : w0.cell? ⟨p, 0, none⟩ = some (.string ((ends d.kids)[j]'hje).1) ∧ w0.cell? ⟨p, 1, none⟩ = some (.pointer (some ⟨((ends d.kids)[j]'hje).2, 0, none⟩)) := by
          obtain ⟨g', p', hg', q1, q2, q3⟩ := HF.out.2 j (by rw [HEL.out]; exact hlt)
          cases hg'
          have e := h1.symm.trans ((HWr.out.cell (World.block_lt_of_cell? w0 _ q1)).trans q1)
          cases e
          exact ⟨q2, q3⟩
        have hnm : ((ends d.kids)[j]'hje).1 = d.kids[j].1 := by simp [ends]
        have hch : ((ends d.kids)[j]'hje).2 = (d.kids[j].2).b := by simp [ends]
        rw [hnm] at h2 h0p
        rw [hch] at h3 h0p
        obtain ⟨nm, hnme⟩ : ∃ nm, nm = d.kids[j].1 := ⟨_, rfl⟩
        rw [← hnme] at h2 h0p
        have H1P := Lib.hid h0p.2
        replace h0p := h0p.1
        have hts : ks.take (j + 1) = ks.take j ++ [(nm, (d.kids[j].2).strip)] := by
          rw [List.take_succ_eq_append_getElem (by rw [HKL.out]; exact hlt), hnme]
          congr 2
          simp only [HKS.out, List.getElem_map]
        have hline : textK k (ks.take (j + 1)) = textK k (ks.take j) ++ (sp k ++ nm.data.toList ++ [10] ++ textT (k + 1) (d.kids[j].2).strip) := by
          rw [hts, textK_append]
          simp [textK]
        have hall : (textK k (ks.take (j + 1))).length ≤ (textK k ks).length := by
          have := textK_append k (ks.take (j + 1)) (ks.drop (j + 1))
          rw [List.take_append_drop] at this
          rw [this, List.length_append]
          omega
        have hlen := HLEN.out
        have hl1 : bs.length + ((textK k (ks.take j)).length + (2 * k + nm.size + 1 + (textT (k + 1) (d.kids[j].2).strip).length)) ≤ 140737488355328 := by
          rw [hline] at hall
          simp only [List.length_append, sp_length, List.length_singleton, Array.length_toList] at hall
          have : nm.data.size = nm.size := rfl
          omega
        obtain ⟨P0, hP0⟩ : ∃ P0 : ByteArray, P0 = ⟨(sp k).toArray⟩ := ⟨_, rfl⟩
        have hPs : P0.size = 2 * k := by rw [hP0]; show (sp k).toArray.size = _; rw [List.size_toArray, sp_length]
        have hs1 : (P0 ++ nm).size = 2 * k + nm.size := by rw [ByteArray.size_append, hPs]
        have hs2 : (P0 ++ nm ++ ⟨#[10]⟩).size = 2 * k + nm.size + 1 := by rw [ByteArray.size_append, hs1]; rfl
        have hcl : Lib.strCells (P0 ++ nm ++ ⟨#[10]⟩) = Lib.byteCells (sp k ++ nm.data.toList ++ [10]) := by
          rw [Lib.strCells_eq, ByteArray.data_append, ByteArray.data_append, Array.toList_append, Array.toList_append, hP0]
        have HCL := Lib.hid hcl
        have HLINE := Lib.hid hline
        have HS1 := Lib.hid hs1
        have HS2 := Lib.hid hs2
        have hnb : nm.size ≤ 140737488355328 := by omega
        have hpb : P0.size ≤ 200000 := by omega
        have hsb : ¬ (9223372036854775807 < P0.size + nm.size) := by omega
        have hsb2 : ¬ (9223372036854775807 < P0.size + nm.size + 1) := by omega
        have HWS := Lib.hid (fun (W : World) h hs => writeString_any B b (Lib.byteCells (bs ++ textK k (ks.take j))) (P0 ++ nm ++ ⟨#[10]⟩) W h (by rw [HS2.out, Lib.byteCells_length, List.length_append]; omega) hs)
        have HL1 := Lib.hid hl1
        have HREP := Lib.hid (fun W => hP0 ▸ repeat_any k W (by omega) : ∀ W : World, Calls Try.prog 93 #[.string ⟨#[32, 32]⟩, .int .i64 k] W fun e w' => e = .returned (.string P0) ∧ Below W.heap.size W w')
        have H0P := Lib.hid h0p
        clear hnm hch hnme hts hline hall hlen hl1 hP0 hcl h0p hs1 hs2 hPs
        have HLT := Lib.hid hlt
        go_upto_region 3 with fail
        go_cut [26] (fun s26 wx => Hid (Lib.IsBuilder tBd tU8 B b (Lib.byteCells (bs ++ textK k (ks.take j) ++ (sp k ++ nm.data.toList ++ [10]))) wx) ∧ Hid (Below w0.heap.size w0 wx) ∧ B ≤ wx.heap.size)
        case first =>
          go_region_held3 (fun w' => w'.cell? ⟨p, 0, none⟩ = some (.string nm) ∧ Hid (Below w0.heap.size w0 w'))
            (first
              | (go_split_ands; refine keepE H0P.out ?_; (first
                | with_reducible assumption
                | (repeat' (first | with_reducible assumption | refine hid_b ?_)))))
            (first
              | (go_at_call 93; go_split_ands; refine (HREP.out _).mono ?_; rintro e wz ⟨rfl, hbz⟩; have HBz : Hid (Below w0.heap.size w0 wz) := Lib.hid (hid_tr (by assumption) hbz); have HBDz := Lib.hid (builder_tr HBr.out (by rfl) hbz); have hszz : B ≤ wz.heap.size := Nat.le_trans hsz hbz.size; clear hbz)
              | (go_at_call 92; go_split_ands; refine (HWS.out _ HBDz.out hszz).mono ?_; rintro e wy ⟨rfl, hat, hby⟩; have HBy : Hid (Below w0.heap.size w0 wy) := Lib.hid (HBz.out.trans (hby.mono hB0)); have HBDy := Lib.hid hat; have hszy : B ≤ wy.heap.size := Nat.le_trans hszz hby.size; clear hat hby))
          go_wp2_with fail
          go_meet
          case rel =>
            refine ⟨Lib.hid (.inr ?_), HBy, hszy⟩
            rw [Lib.byteCells_append (bs ++ textK k (ks.take j)), ← HCL.out]
            exact HBDy.out
        case rest =>
          obtain ⟨HBc, HWc, hszc⟩ := hcut
          have h3c : wc.cell? ⟨p, 1, none⟩ = some (.pointer (some ⟨(d.kids[j].2).b, 0, none⟩)) := (HWc.out.cell (World.block_lt_of_cell? w0 _ H1P.out)).trans H1P.out
          obtain ⟨k1, hk1⟩ : ∃ k1, k1 = k + 1 := ⟨_, rfl⟩
          have hk1i : (k : Int) + 1 = (k1 : Int) := by omega
          have hkw : IntKind.i64.wrap (k1 : Int) = (k1 : Int) := IntWalk.i64_in _ (by omega)
          have HIH := Lib.hid (ih (d.kids[j].2) k1 (bs ++ textK k (ks.take j) ++ (sp k ++ nm.data.toList ++ [10])) wc (by have := kids_lt HLT.out; have := HM.out; omega) (fun x hx => HOK.out x (kids_sub HLT.out x hx)) HWc.out HBc.out
            (by rw [hk1]; have := HL1.out; have e : nm.data.toList.length = nm.size := Array.length_toList; simp only [List.length_append, sp_length, List.length_singleton, e]; omega) (by omega) hszc hB0)
          obtain ⟨ch, hch⟩ : ∃ ch, ch = (d.kids[j].2).b := ⟨_, rfl⟩
          rw [← hch] at HIH h3c
          have HK1 := Lib.hid hk1
          clear hk1 hch
          go_wp2_with fail
          refine HIH.out.mono ?_
          rintro e wf ⟨rfl, hbf, hwf⟩
          have hszf : B ≤ wf.heap.size := by
            rcases hbf with ⟨hB, v, hbk, _⟩ | ⟨hB, v, hbk, _⟩
            · have := lt_of_heap hbk; omega
            · have := lt_of_heap hbk; omega
          have HBF : Hid (Lib.IsBuilder tBd tU8 B b (Lib.byteCells (bs ++ textK k (ks.take (j + 1)))) wf) := Lib.hid (by
            rw [HLINE.out, ← HK1.out]
            simp only [List.append_assoc] at hbf ⊢
            exact hbf)
          have HWF := Lib.hid hwf
          clear hbf hwf HIH hk1i hkw
          go_wp2_with fail
          exact ⟨⟨j + 1, by omega, by go_num, HBF, HWF, hszf⟩, by simp [intOf]; omega⟩
      · obtain rfl : j = d.kids.length := by omega
        have HBF := Lib.hid (show Lib.IsBuilder tBd tU8 B b (Lib.byteCells (bs ++ textK k ks)) wr from by
          have := HBr.out
          rwa [← HKL.out, List.take_length] at this)
        go_wp2_with fail
        go_end0
        exact ⟨rfl, HBF.out, HWr.out⟩
end Go.Proofs.Ytjifoimkjgepcaa.Flt
