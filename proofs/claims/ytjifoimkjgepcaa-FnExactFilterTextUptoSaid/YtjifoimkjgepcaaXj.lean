/-
  The walk of (*spec.kTree).put.
-/
import Derived.Test.YtjifoimkjgepcaaXi
set_option linter.unusedVariables false
set_option linter.unusedSimpArgs false
namespace Go.Proofs.Ytjifoimkjgepcaa.Flt
open Go.RowKit Go.Proofs.Ytjifoimkjgepcaa.K Go.Proofs.Ytjifoimkjgepcaa.Fx Go.Proofs.YtjifoimkjgepcaaW.PrintWords

/-- What put leaves. -/
def Putted (rb base B : Nat) (fs : List ByteArray) (T : FT) (w : World) (e : Ending) (w' : World) : Prop :=
  e = .returned (.tuple #[]) ∧ ∃ (D : DT) (F : Nat → Bool), KInv w' base F D.nodes ∧ D.b = rb ∧ FlagOK F rb rb D.nodes ∧ D.strip = addT fs T ∧ (∀ x ∈ D.nodes, x.es.length ≤ B + 1) ∧ Below base w w'
/-- The loop's relation. -/
structure PutAt (rb base B : Nat) (fs : List ByteArray) (T : FT) (w wr : World) (k : Nat) (C : List Fr) (d : DT) (F : Nat → Bool) (c : Nat) : Prop where
  inv : KInv wr base F (plug C d).nodes
  root : (plug C d).b = rb
  flag : FlagOK F rb c (plug C d).nodes
  cur : c = rb ∨ (c = d.b ∧ d.kids = [] ∧ F d.b = false)
  rest : addT fs T = plugF C (if F d.b then d.strip else addE (fs.drop k) d.strip)
  deep : k = 0 ∨ C ≠ []
  bd : ∀ x ∈ (plug C d).nodes, x.es.length ≤ B + 1
  bd2 : (∀ x ∈ (plug C d).nodes, x.es.length ≤ B) ∨ d.kids = []
  bel : Below base w wr
def PutRel (rb base B : Nat) (fs : List ByteArray) (T : FT) (w : World) (t i : Value) (wr : World) : Prop :=
  ∃ (k : Nat) (C : List Fr) (d : DT) (F : Nat → Bool) (c : Nat), k ≤ fs.length ∧ i = .int .i64 k ∧ t = .pointer (some ⟨d.b, 0, none⟩) ∧ Hid (PutAt rb base B fs T w wr k C d F c)
set_option maxHeartbeats 1000000 in
set_option maxRecDepth 100000 in
theorem put_any (A : Option Addr) (c : Nat) (fs : List ByteArray) (w : World) (base B rb : Nat) (D : DT) (F : Nat → Bool) (hm : fs.length ≤ maxLen)
    (hfs : ∀ j (h : j < fs.length), ∃ ad, A = some ad ∧ w.cell? (ad.add j) = some (.string fs[j]) ∧ ad.block < base)
    (hinv : KInv w base F D.nodes) (hD : D.b = rb) (hfl : FlagOK F rb rb D.nodes) (hbase : base ≤ w.heap.size) (hB : ∀ x ∈ D.nodes, x.es.length ≤ B) (hB' : (B + 1) * 8 ≤ 140737488355328) :
    Calls Try.prog 58 #[.pointer (some ⟨rb, 0, none⟩), .slice A fs.length c] w (Putted rb base B fs D.strip w) := by
  unfold maxLen at hm
  rcases Nat.eq_zero_or_pos fs.length with h0 | hpos
  · obtain rfl : fs = [] := List.length_eq_zero_iff.1 h0
    have H := Lib.hid (show Putted rb base B [] D.strip w (.returned (.tuple #[])) w from ⟨rfl, D, F, hinv, hD, hfl, rfl, fun x hx => Nat.le_succ_of_le (hB x hx), Below.refl _ _⟩)
    clear hinv hD hfl hB hfs
    go_enter Try.func58, Try.ntmps58
    go_wp2_with fail
    go_end0
    exact H.out
  have hne0 : ¬ ((fs.length : Int) = 0) := by omega
  have HF := Lib.hid hfs
  have hst : PutAt rb base B fs D.strip w w 0 [] D F rb := ⟨hinv, hD, hfl, .inl rfl, by
    have h1 : F D.b = false := by rw [hD]; exact hfl.1
    rw [h1, plugF]
    cases fs with
    | nil => simp at hpos
    | cons a r => rfl, .inl rfl, fun x hx => Nat.le_succ_of_le (hB x hx), .inl hB, Below.refl _ _⟩
  have HST := Lib.hid hst
  have HD := Lib.hid hD
  clear hfs hinv hD hfl hB hst
  go_enter Try.func58, Try.ntmps58
  go_wp2_with fail
  have hb0 : ((fs.length : Int) == 0) = false := by simpa using hne0
  rw [hb0]
  clear hb0
  go_loopw [0, 4] (fun t i wr => PutRel rb base B fs D.strip w t i wr) (fun _ i _ => fs.length - (intOf i).toNat)
  case atStart => exact ⟨0, [], D, F, rb, Nat.zero_le _, rfl, by rw [HD.out], HST⟩
  case round =>
    obtain ⟨k, C, d, F, c', hk, rfl, rfl, HP⟩ := hrel
    have hx := HP.out.inv.cursor.ok _ List.mem_cons_self
    obtain ⟨text, hcell⟩ := hx.cell
    dsimp only at hcell
    have hc1 : wr.cell? ⟨d.b, 1, none⟩ = some (.bool (F d.b)) := cell_of_heap hcell 1
    have hc2 : wr.cell? ⟨d.b, 2, none⟩ = some d.v := cell_of_heap hcell 2
    have hf1 : wr.frozen? ⟨d.b, 1, none⟩ = false := frozen_of_heap hcell 1
    have hf2 : wr.frozen? ⟨d.b, 2, none⟩ = false := frozen_of_heap hcell 2
    have HCELL := Lib.hid hcell
    have HX := Lib.hid hx
    clear hcell hx
    by_cases hlt : k < fs.length
    · have hlt' : (k : Int) < (fs.length : Int) := by omega
      obtain ⟨ad, rfl, hs, hbb⟩ := HF.out k hlt
      have hs' : wr.cell? (ad.add k) = some (.string fs[k]) := (HP.out.bel.cell (p := ad.add k) (by rw [add_block]; exact hbb)).trans hs
      clear hs
      obtain ⟨bl, hbl⟩ : ∃ b : Bool, F d.b = b := ⟨_, rfl⟩
      rw [hbl] at hc1
      cases bl
      · have hml : (ends d.kids).length ≤ B + 1 := HP.out.bd _ (cursor_mem C d)
        have hfan : KFan wr ⟨d.b, d.v, ends d.kids⟩ := HX.out.fan (by show (ends d.kids).length ≤ maxLen; unfold maxLen; omega)
        obtain ⟨v, hv⟩ : ∃ v, v = fs[k] := ⟨_, rfl⟩
        rw [← hv] at hs'
        have HV := Lib.hid hv
        have hrest : addT fs D.strip = plugF C (addE (v :: fs.drop (k + 1)) d.strip) := by
          rw [HP.out.rest, hbl, List.drop_eq_getElem_cons hlt, hv]
          rfl
        have HREST := Lib.hid hrest
        have HAL := Lib.hid (along_any ⟨d.b, d.v, ends d.kids⟩ v wr hfan)
        have HBL := Lib.hid hbl
        clear hv hrest hfan hbl
        rcases hix : ixN v ((ends d.kids).map (·.1)) with _ | j
        · have hal := HAL.out
          dsimp only at hal
          rw [hix, ptrAt] at hal
          have HAL2 := Lib.hid hal
          have HIX := Lib.hid hix
          clear hal hix HAL
          go_wp2_with fail
          refine HAL2.out.mono ?_
          rintro e w1 ⟨rfl, rfl⟩
          have hdlt : d.b < w1.heap.size := lt_of_heap HCELL.out
          have hbs : base ≤ w1.heap.size := Nat.le_trans hbase HP.out.bel.size
          have hkb : d.kids.length ≤ B := by
            rcases HP.out.bd2 with h | h
            · simpa [ends] using h _ (cursor_mem C d)
            · rw [h]; exact Nat.zero_le _
          have hown : w1.ownsRow base tPk 1 d.v (ptrs (ends d.kids)).length (ptrs (ends d.kids)) := by
            rcases HX.out.row with ⟨he, hv⟩ | ⟨_, ho⟩
            · dsimp only at he hv
              rw [he, hv]
              exact World.ownsRow_nil _ _ _ _
            · simpa [ptrs] using ho
          have HO := Lib.hid hown
          have hpl : (ptrs (ends d.kids)).length = d.kids.length := by simp [ptrs, ends]
          have HPL := Lib.hid hpl
          have HBS := Lib.hid hbs
          have HKB := Lib.hid hkb
          have HDL := Lib.hid hdlt
          clear hown hpl
          have hcn : (w1.alloc (Obj.cells #[Value.string v, Value.bool false, Value.slice none 0 0] tK)).cell? ⟨d.b, 2, none⟩ = some d.v := (World.cell?_alloc_lt _ _ _ hdlt).trans hc2
          go_wp2_with (at_builtin; refine app1 (w0 := w) base rfl _ _ 105 tPk (.pointer none) 8 rfl Try.underlying105 (by kernel_rfl) rfl (by decide) d.v (ptrs (ends d.kids)) (.pointer (some ⟨w1.heap.size, 0, none⟩)) (w1.heap.size + 1) rfl rfl ?hg rfl ((HO.out.alloc _).alloc _) ((HP.out.bel.alloc hbs _).alloc (by simp; omega) _) (by simp; omega) ?hl ?_)
          case hg => exact cell_new1 _ _ _ _
          case hl => rw [HPL.out]; omega
          intro v1 w2 hown1 hb2 hgr hat
          have hsz1 : ((w1.alloc (Obj.cells #[Value.string v, Value.bool false, Value.slice none 0 0] tK)).alloc (Obj.cells #[Value.pointer (some ⟨w1.heap.size, 0, none⟩)] tPk)).heap.size = w1.heap.size + 1 + 1 := by simp
          have howl : ∀ q, d.v.ownBlock = some q → q < w1.heap.size := fun q hq => (HO.out.lt q hq).2
          have hkeep : ∀ q, q < w1.heap.size → some q ≠ d.v.ownBlock → w2.heap[q]? = w1.heap[q]? := fun q hq hn => by
            rw [hgr.block q (by simp; omega) hn, heap_old' _ _ (by rw [size_alloc]; omega), heap_old' _ _ hq]
          have hdn : some d.b ≠ d.v.ownBlock := by
            intro e
            obtain ⟨cur, hcc⟩ := own_heap HO.out e.symm
            exact typ_ne HCELL.out hcc (by decide) rfl
          have hdc : ∀ tx l vv, w1.heap[d.b]? = some (.cells #[.string tx, l, vv] tK (0, 0)) → w2.heap[d.b]? = some (.cells #[.string tx, l, vv] tK (0, 0)) := fun tx l vv hh => (hkeep d.b hdlt hdn).trans hh
          have hbw : w2.heap[w1.heap.size]? = some (.cells #[.string v, .bool false, .slice none 0 0] tK (0, 0)) := by
            rw [hgr.block w1.heap.size (by simp; omega) (fun e => by have := howl _ e.symm; omega), heap_old' _ _ (by rw [size_alloc]; omega)]
            exact heap_new w1 _
          have hat' : v1.ownBlock = d.v.ownBlock ∨ ∃ g, v1.ownBlock = some g ∧ w1.heap.size ≤ g := hat.imp id (fun ⟨g, h1, h2⟩ => ⟨g, h1, by have h3 := h2; first | omega | (simp at h3; omega)⟩)
          have hdl2 : w2.heap[d.b]? = some (.cells #[.string text, .bool (F d.b), d.v] tK (0, 0)) := hdc _ _ _ HCELL.out
          have hf2' : w2.frozen? ⟨d.b, 2, none⟩ = false := frozen_of_heap hdl2 2
          have hc2' : w2.cell? ⟨d.b, 2, none⟩ = some d.v := cell_of_heap hdl2 2
          obtain ⟨g, cp, hv1⟩ : ∃ g cp, v1 = .slice (some ⟨g, 0, none⟩) (d.kids.length + 1) cp := by
            have hl := HPL.out
            rcases hown1.2 with ⟨_, h0⟩ | ⟨g, cp, cur, hv, _⟩
            · exact absurd h0 (by omega)
            · exact ⟨g, cp, by rw [hv, hl]⟩
          have hkg := kgrow (w5 := w2.setCell ⟨d.b, 2, none⟩ v1) (n := v) (v1 := v1) (b' := w1.heap.size) HP.out.inv
            (fun q hq hn ho => by rw [heap_set_ne hn]; exact hkeep q hq ho)
            (fun tx l vv hh => by rw [heap_set (hdc _ _ _ hh) 2 v1]; rfl)
            HBS.out (Nat.le_refl _) (by rw [heap_set_ne (by omega)]; exact hbw)
            (by
              have e : ptrs (ends d.kids ++ [(v, w1.heap.size)]) = ptrs (ends d.kids) ++ [.pointer (some ⟨w1.heap.size, 0, none⟩)] := by simp [ptrs]
              have e2 : (ends d.kids ++ [(v, w1.heap.size)]).length = (ptrs (ends d.kids)).length + 1 := by simp [ptrs]
              rw [e, e2]
              refine own_keep hown1 fun q hq => heap_set_ne ?_ _ _
              intro e3
              obtain ⟨cur, hcc⟩ := own_heap hown1 hq
              exact typ_ne hdl2 hcc (by decide) e3.symm) hat'
          have hfg := grow_flag (n := v) (v1 := v1) HP.out.inv HP.out.root HP.out.flag (HP.out.cur.imp id (fun h => h.1)) HBL.out (Nat.le_refl w1.heap.size) (by
            rcases root_in C d with ⟨_, h⟩ | ⟨y, hy, h⟩
            · rw [← HP.out.root, h]; exact hdlt
            · have hy2 := HP.out.inv.cursor.ok y (List.mem_cons_of_mem _ (List.mem_append_right _ hy))
              obtain ⟨ty, hcy⟩ := hy2.cell
              rw [← HP.out.root, ← h]
              exact lt_of_heap hcy)
          have HNEXT : Hid (PutAt rb base B fs D.strip w (w2.setCell ⟨d.b, 2, none⟩ v1) (k + 1) (⟨d.b, v1, d.kids, v, []⟩ :: C) (.mk w1.heap.size (.slice none 0 0) []) (upF F w1.heap.size false) w1.heap.size) := Lib.hid
            { inv := hkg
              root := by
                rw [plug]
                exact (plug_b C (.mk d.b v1 _) d rfl).trans HP.out.root
              flag := hfg
              cur := .inr ⟨rfl, rfl, upF_same _ _ _⟩
              rest := by
                rw [HREST.out, addE_none HIX.out]
                show _ = plugF _ (if upF F w1.heap.size false w1.heap.size then _ else _)
                rw [upF_same, if_neg (by simp), plugF, strip_kids, strip_mk]
                rfl
              deep := .inr (by simp)
              bd := bound_new HP.out.bd HKB.out
              bd2 := .inr rfl
              bel := hb2.setCell (p := ⟨d.b, 2, none⟩) HX.out.low _ }
          subst hv1
          clear hown1 hb2 hgr hat hkeep hdn hdc hbw hat' hkg hfg howl hsz1 hdl2
          go_wp2_with fail
          exact ⟨⟨k + 1, _, _, _, _, by omega, by go_num, rfl, HNEXT⟩, by simp [intOf]; omega⟩
        · have hjl : j < d.kids.length := by have := ixN_lt hix; simpa [ends] using this
          have hal := HAL.out
          dsimp only at hal
          rw [hix, ptrAt, List.getElem?_eq_getElem (by simpa [ends] using hjl)] at hal
          have hch : ((ends d.kids)[j]'(by simpa [ends] using hjl)).2 = (d.kids[j].2).b := by simp [ends]
          simp only [Option.map_some, hch] at hal
          obtain ⟨ch, hche⟩ : ∃ ch, ch = (d.kids[j].2).b := ⟨_, rfl⟩
          rw [← hche] at hal
          have HAL2 := Lib.hid hal
          have hc0 : c' = rb := by
            rcases HP.out.cur with h | ⟨_, h, _⟩
            · exact h
            · rw [h] at hjl; simp at hjl
          have hflag : FlagOK F rb rb (plug C d).nodes := hc0 ▸ HP.out.flag
          have hpl := plug_down C d j hjl
          have hkf := kid_flag HP.out.inv HP.out.root hflag hjl
          have HNEXT : Hid (PutAt rb base B fs D.strip w wr (k + 1) (⟨d.b, d.v, d.kids.take j, d.kids[j].1, d.kids.drop (j + 1)⟩ :: C) d.kids[j].2 F rb) := Lib.hid
            { inv := hpl ▸ HP.out.inv
              root := hpl ▸ HP.out.root
              flag := hpl ▸ hflag
              cur := .inl rfl
              rest := by
                rw [HREST.out, hkf.1]
                by_cases hl : (d.kids[j].2).kids = []
                · rw [addE_leaf hix hjl hl, hl]
                  show plugF C d.strip = plugF _ (d.kids[j].2).strip
                  rw [← strip_plug, hpl, strip_plug]
                · rw [addE_on hix hjl hl, plugF_down]
                  congr 3
                  rw [if_neg]
                  cases hk2 : (d.kids[j].2).kids with
                  | nil => exact absurd hk2 hl
                  | cons a r => simp
              deep := .inr (by simp)
              bd := hpl ▸ HP.out.bd
              bd2 := by
                rcases HP.out.bd2 with h | h
                · exact .inl (hpl ▸ h)
                · rw [h] at hjl; simp at hjl
              bel := HP.out.bel }
          have HCHE := Lib.hid hche
          have HJL := Lib.hid hjl
          clear hal hix HAL hch hflag hpl hkf hc0 hche
          go_wp2_with fail
          refine HAL2.out.mono ?_
          rintro e w1 ⟨rfl, rfl⟩
          go_wp2_with fail
          exact ⟨⟨k + 1, _, _, F, rb, by omega, by go_num, by rw [HCHE.out], HNEXT⟩, by simp [intOf]; omega⟩
      · have hflag : FlagOK F rb rb (plug C d).nodes := by
          rcases HP.out.cur with h | ⟨_, _, h⟩
          · exact h ▸ HP.out.flag
          · rw [hbl] at h
            cases h
        have hstr : (plug C d).strip = addT fs D.strip := by
          rw [HP.out.rest, hbl, strip_plug]
          rfl
        have HRET := Lib.hid (show Putted rb base B fs D.strip w (.returned (.tuple #[])) wr from ⟨rfl, plug C d, F, HP.out.inv, HP.out.root, hflag, hstr, HP.out.bd, HP.out.bel⟩)
        clear hflag hstr
        go_wp2_with fail
        go_end0
        exact HRET.out
    · obtain rfl : k = fs.length := by omega
      have hdr : d.b ≠ rb := by
        rcases HP.out.deep with h | h
        · omega
        · exact HP.out.root ▸ not_root HP.out.inv h
      have HFIN := Lib.hid (show Putted rb base B fs D.strip w (.returned (.tuple #[])) ((wr.setCell ⟨d.b, 1, none⟩ (.bool true)).setCell ⟨d.b, 2, none⟩ (.slice none 0 0)) from ⟨rfl, plug C (.mk d.b (.slice none 0 0) []), upF F d.b true, kfinish HP.out.inv, (plug_b C (.mk d.b (.slice none 0 0) []) d rfl).trans HP.out.root,
        finish_flag HP.out.inv HP.out.flag (HP.out.cur.imp id (fun h => h.1)) hdr, by
          have hr := HP.out.rest
          rw [hr, strip_plug]
          congr 1
          split
          · rename_i h
            have hfl := HP.out.flag.2 _ (cursor_mem C d) hdr (by
              rcases HP.out.cur with h2 | ⟨_, _, h2⟩
              · rw [h2]; exact hdr
              · rw [h2] at h; cases h)
            rw [h] at hfl
            have hk0 : d.kids = [] := by
              have : (ends d.kids).isEmpty = true := hfl.symm
              cases hd : d.kids with
              | nil => rfl
              | cons a r => rw [hd] at this; simp [ends] at this
            have : d.strip = FT.mk [] := by rw [d.eta, hk0, strip_mk]; rfl
            rw [this, strip_mk]; rfl
          · rw [List.drop_length, addE, strip_mk]; rfl, fun x hx => by
            have := (nodes_clear C d).mem_iff.1 hx
            rcases List.mem_cons.1 this with rfl | hx
            · simp
            · exact HP.out.bd x ((nodes_plug C d).mem_iff.2 (List.mem_append_right _ hx)), (HP.out.bel.setCell (p := ⟨d.b, 1, none⟩) HX.out.low _).setCell (p := ⟨d.b, 2, none⟩) HX.out.low _⟩)
      go_wp2_with fail
      go_end0
      exact HFIN.out
end Go.Proofs.Ytjifoimkjgepcaa.Flt
