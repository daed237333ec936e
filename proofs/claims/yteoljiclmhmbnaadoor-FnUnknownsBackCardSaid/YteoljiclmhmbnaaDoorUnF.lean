/-
  The walk of laws.FnUnknownsBack.
-/
import Derived.Test.YteoljiclmhmbnaaDoorUnE
import Derived.Test.YteoljiclmhmbnaaDoorUnA
import Derived.Deep.Slices
import Derived.ChangeArms
set_option linter.unusedVariables false
set_option linter.unusedSimpArgs false
namespace Go.Proofs.YteoljiclmhmbnaaDoor.Tx
open Go.RowKit Go.Proofs.YteoljiclmhmbnaaDoorW.PrintWords Go.Proofs.YteoljiclmhmbnaaDoor.K

theorem rowS_info : (Tryd.prog.info? 29).map (fun i => (i.zero, i.size, i.bytes)) = some (some (.slice none 0 0), kRow.sz, 24) := by
  show _ = some (some (Value.slice none 0 0), 1, 24)
  kernel_rfl
set_option maxHeartbeats 4000000 in
set_option maxRecDepth 5000 in
theorem back_walk (A B : Option Addr) (c d : Nat) (us : List Un) (cs : List Cls) (w : World) (hC : kUn.C w A us.length us) (hc : us.length ≤ c) (hD : kCls.C w B cs.length cs) :
    Calls Tryd.prog 7 #[.slice A us.length c, .slice B cs.length d] w (RetT w) := by
  have hm := hC.2.1
  have HC := Lib.hid hC
  have HD := Lib.hid hD
  clear hC hD
  go_enter Tryd.func7, Tryd.ntmps7
  go_wp2_with fail
  refine (zzFits1_any A c us w HC.out).mono ?_
  rintro e w1 ⟨b1, rfl, hb1, hl1⟩
  have HB1 := Lib.hid hb1
  have HL1 := Lib.hid hl1
  have hz1 := hl1.size
  clear hb1 hl1
  cases b1
  · go_wp2
    go_ret
    exact ⟨by simp, HL1.out⟩
  go_wp2_with fail
  refine (zzFits4_any B d cs w1 (Kd.C_below HD.out HL1.out)).mono ?_
  rintro e w2 ⟨b2, rfl, hb2, hl2⟩
  have HB2 := Lib.hid hb2
  have HL2 := Lib.hid (HL1.out.trans (hl2.mono hz1))
  have hz2 := HL2.out.size
  clear hb2 hl2 HL1 hz1
  cases b2
  · go_wp2
    go_ret
    exact ⟨by simp, HL2.out⟩
  obtain ⟨hf1, hf2⟩ := HB2.out (by first | trivial | rfl)
  have HF1 := Lib.hid (HB1.out (by first | trivial | rfl)).2
  have HF2 := Lib.hid hf2
  clear hf2 HB1 HB2
  go_wp2_with fail
  refine (names_any B d cs w2 (Kd.C_below HD.out HL2.out) HF2.out hf1).mono ?_
  rintro e w3 ⟨b3, rfl, hb3, hl3⟩
  have HB3 := Lib.hid hb3
  have HL3 := Lib.hid (HL2.out.trans (hl3.mono hz2))
  have hz3 := HL3.out.size
  clear hb3 hl3 HL2 hz2
  cases b3
  · go_wp2_with fail
    refine (guesses_any w3).mono ?_
    rintro e w4 ⟨rfl, hl4⟩
    have HL4 := Lib.hid (HL3.out.trans (hl4.mono hz3))
    clear hl4
    go_wp2
    go_ret
    exact ⟨by simp, HL4.out⟩
  have HN := Lib.hid (HB3.out (by first | trivial | rfl))
  go_wp2_with fail
  refine (plainUnknown_any A B c d us cs.length w3 (Kd.C_below HC.out HL3.out) HF1.out).mono ?_
  rintro e w4 ⟨b4, rfl, hb4, hl4⟩
  have HB4 := Lib.hid hb4
  have HL4 := Lib.hid (HL3.out.trans (hl4.mono hz3))
  have hz4 := HL4.out.size
  clear hb4 hl4 HL3 hz3
  cases b4
  · go_wp2_with fail
    refine (guesses_any w4).mono ?_
    rintro e w5 ⟨rfl, hl5⟩
    have HL5 := Lib.hid (HL4.out.trans (hl5.mono hz4))
    clear hl5
    go_wp2
    go_ret
    exact ⟨by simp, HL5.out⟩
  have HP := Lib.hid (HB4.out (by first | trivial | rfl))
  obtain ⟨_, hp1, hp2⟩ := HP.out
  obtain ⟨hn1, hn2⟩ := HN.out.ln
  have HOK := Lib.hid (okU_of HP.out)
  have HTL : Hid ((cs.map (·.1)).length = cs.length) := Lib.hid (by simp)
  clear HB3 HB4
  go_wp2
  go_loopw [5, 31] (fun v i wr => ∃ k : Nat, k ≤ us.length ∧ i = .int .i64 k ∧ Hid (kRow.R 29 wr w4.heap.size (fun _ => True) v ((us.take k).map (rowU (cs.map (·.1))))) ∧ Hid (Below w4.heap.size w4 wr)) (fun _ i _ => us.length - (intOf i).toNat)
  case atStart => exact ⟨0, Nat.zero_le _, rfl, Lib.hid (Kd.R_nil _ _ _ _ _), Lib.hid (Below.refl _ _)⟩
  case round =>
    obtain ⟨k, hk, rfl, hR, hbel⟩ := hrel
    have hszr := hbel.out.size
    by_cases hlt : k < us.length
    · have HLR := Lib.hid (HL4.out.trans (hbel.out.mono hz4))
      obtain ⟨ad, A1, c1, rfl, s0, s1, s2, s3, s4, hC1, _⟩ := uns_at (Kd.C_below HC.out HLR.out) k hlt
      have HO1 := Lib.hid (HOK.out _ (List.getElem_mem hlt))
      have HT : Hid ((us.take (k + 1)).map (rowU (cs.map (·.1))) = (us.take k).map (rowU (cs.map (·.1))) ++ [rowU (cs.map (·.1)) us[k]]) := Lib.hid (by
        rw [List.take_succ_eq_append_getElem hlt, List.map_append]; rfl)
      have HKL : Hid (((us.take k).map (rowU (cs.map (·.1)))).length = k) := Lib.hid (by simp; omega)
      have HVB := Lib.hid (fun q e => ((own_lt (Kd.R_own hR.out).choose_spec q e) : q < wr.heap.size))
      generalize (us.take k).map (rowU (cs.map (·.1))) = L at *
      generalize us[k] = u at *
      have HC1 := Lib.hid hC1
      clear hC1
      have HUR := Lib.hid (fun (W : World) (hW : Below wr.heap.size wr W) => unkRecord_any cs u HO1.out B A1 d c1 W (Kd.C_below HD.out (HLR.out.trans (hW.mono HLR.out.size))) (Kd.C_below HC1.out hW))
      obtain ⟨a, l, r, s, ys⟩ := u
      go_wp2_with fail
      refine (HUR.out _ ((Below.refl _ _).alloc (Nat.le_refl _) _)).mono ?_
      rintro e w5 ⟨v5, rfl, hR5, hB5⟩
      obtain ⟨A5, c5, rfl⟩ := Kd.R_slice hR5
      have HR5 := Lib.hid hR5
      have HL5 := Lib.hid ((hbel.out.alloc hszr _).trans (hB5.mono (by rw [size_alloc]; omega)))
      have HRA := Lib.hid (Kd.R_below (Kd.R_alloc hR.out _) hB5)
      have hz5 := HL5.out.size
      have hz6 : wr.heap.size ≤ w5.heap.size := by have := hB5.size; rw [size_alloc] at this; omega
      clear hR5 hB5 HUR
      go_wp2_with ((at_builtin; refine kapp (w0 := w4) kRow w4.heap.size rfl _ _ 58 29 (.slice none 0 0) 24 rfl Tryd.underlying58 rowS_info rfl (by decide) (by decide) _ L (rowU (cs.map (·.1)) (a, l, r, s, ys)) [.slice A5 (rowU (cs.map (·.1)) (a, l, r, s, ys)).length c5] (fun _ => True) (fun q => wr.heap.size ≤ q) w5.heap.size rfl rfl ?hg ⟨_, rfl, ?hM⟩ ?hokp (fun _ _ => trivial) (Kd.R_alloc HRA.out _) (HL5.out.alloc HL5.out.size _) (by have := HL5.out.size; simp; omega) (by rw [HKL.out]; omega) ?_))
      case hg => intro q u hq; rw [cell_of_heap (heap_new _ _)]; simpa using hq
      case hM => exact Kd.R_lower (Kd.R_mono (Kd.R_bound (Kd.R_alloc HR5.out _)) (fun _ hk => by have := hk.2.1; rw [size_alloc] at this; omega)) (by rw [size_alloc]; omega)
      case hokp => intro q hq; exact ⟨trivial, fun e => by have := HVB.out q e.symm; omega⟩
      intro v6 w6 hR6 hB6 hg6 hat6
      have HR6 := Lib.hid hR6
      have HB6 := Lib.hid hB6
      clear hR6 hB6 hg6 hat6
      go_wp2
      exact ⟨⟨k + 1, by omega, by go_num, Lib.hid (by rw [HT.out]; exact HR6.out), HB6⟩, by simp [intOf]; omega⟩
    · obtain rfl : k = us.length := by omega
      have hR' := hR.out
      rw [List.take_length] at hR'
      obtain ⟨A5, c5, rfl, _, hC5⟩ := Kd.R_reads hR'
      rw [List.length_map] at hC5 ⊢
      have HC5 := Lib.hid hC5
      have HLR := Lib.hid (HL4.out.trans (hbel.out.mono hz4))
      have hzR := HLR.out.size
      clear hR' hC5 hR hbel
      go_wp2_with fail
      refine (lawInfo_any wr).mono ?_
      rintro e w5 ⟨rfl, hb5⟩
      have HL5 := Lib.hid (HLR.out.trans (hb5.mono hzR))
      have HC6 := Lib.hid (Kd.C_below HC5.out hb5)
      have hz5 := HL5.out.size
      clear hb5 HC5
      go_wp2_with fail
      refine (classNames_any B d cs w5 (Kd.C_below HD.out HL5.out) (by omega)).mono ?_
      rintro e w6 ⟨v6, rfl, hv6, hb6⟩
      obtain ⟨A6, c6, rfl, hC6⟩ := tCls_strs hv6
      have HN6 := Lib.hid hC6
      have HC7 := Lib.hid (Kd.C_below HC6.out hb6)
      have HL6 := Lib.hid (HL5.out.trans (hb6.mono hz5))
      have hz6 := HL6.out.size
      clear hv6 hb6 HC6 hC6
      have HUN := Lib.hid (unknowns_any (cs.map (·.1)) HN.out.nd us (by omega) (by omega) (by rw [HTL.out]; omega) HOK.out A5 A6 c5 c6 w6 HC7.out (by rw [HTL.out]; exact HN6.out))
      rw [HTL.out] at HUN
      go_wp2_with fail
      refine HUN.out.mono ?_
      rintro e w7 ⟨A7, c7, B7, c8, rfl, hc7, hC7, hb7⟩
      have hsl : (sortK (nameU (cs.map (·.1))) us).length = us.length := sortK_length _ _
      rw [hsl] at hC7 ⊢
      have HU7 := Lib.hid hC7
      have HL7 := Lib.hid (HL6.out.trans (hb7.mono hz6))
      have hz7 := HL7.out.size
      clear hC7 hb7 hc7 HUN HN6 HC7 hsl
      go_wp2_with fail
      refine (byNameU_any A B c d us cs w7 hc (Kd.C_below HC.out HL7.out) (Kd.C_below HD.out HL7.out) (fun x hx => (HP.out.1 x hx).1) (by omega)).mono ?_
      rintro e w8 ⟨A8, c9, rfl, hC8, hb8⟩
      have HU8 := Lib.hid hC8
      have HU9 := Lib.hid (Kd.C_below HU7.out hb8)
      have HL8 := Lib.hid (HL7.out.trans (hb8.mono hz7))
      have hz8 := HL8.out.size
      clear hC8 hb8 HU7
      have HSU := Lib.hid (sameUnknown_self A7 A8 c7 c9 (sortK (nameU (cs.map (·.1))) us) w8 (by rw [sortK_length]; exact HU9.out) (by rw [sortK_length]; exact HU8.out))
      rw [sortK_length] at HSU
      go_wp2_with fail
      refine HSU.out.mono ?_
      rintro e w9 ⟨rfl, hb9⟩
      have HL9 := Lib.hid (HL8.out.trans (hb9.mono hz8))
      have hz9 := HL9.out.size
      clear hb9 HSU
      go_wp2_with fail
      refine (guesses_any w9).mono ?_
      rintro e w10 ⟨rfl, hl10⟩
      have HL10 := Lib.hid (HL9.out.trans (hl10.mono hz9))
      clear hl10
      go_wp2
      go_ret
      exact ⟨by simp, HL10.out⟩
end Go.Proofs.YteoljiclmhmbnaaDoor.Tx

/-
  An argument that can be read as data is a value of its kind: kind by kind.
-/
set_option linter.unusedVariables false
set_option linter.unusedSimpArgs false
namespace Go.Proofs.YteoljiclmhmbnaaDoor.K
open Go.RowKit Go.Proofs.YteoljiclmhmbnaaDoorW.PrintWords

/-- What can be read at type e is of kind d, and V holds of it. -/
def Opens {α : Type} (P : Program) (w : World) (e : TypeId) (d : Kd α) (V : α → Prop) : Prop :=
  ∀ {H : Type} (enc : TypeId × Value → H) (base : Nat) (spare : Nat → Bool) (held : Bool) (fuel : Nat) (cs : List Value) (x : DataW H × List MemPlace),
    DataW.trod enc P w base spare held fuel e cs = some x → ∃ y, d.K w y cs ∧ V y

theorem Opens.string {P : Program} {w : World} {e : TypeId} (ht : P.underlying e = some .string) : Opens P w e Kd.string (fun s => s.size ≤ maxLen) := by
  intro H enc base spare held fuel cs x h
  obtain ⟨s, rfl, _, hs⟩ := DataW.trod_string ht h
  exact ⟨s, rfl, hs⟩
theorem Opens.bool {P : Program} {w : World} {e : TypeId} (ht : P.underlying e = some .bool) : Opens P w e Kd.bool (fun _ => True) := by
  intro H enc base spare held fuel cs x h
  obtain ⟨s, rfl, _⟩ := DataW.trod_bool ht h
  exact ⟨s, rfl, trivial⟩
theorem Opens.int {P : Program} {w : World} {e : TypeId} {k : IntKind} (ht : P.underlying e = some (.int k)) : Opens P w e (Kd.int k) (fun n => (Lit.int k n).wf = true) := by
  intro H enc base spare held fuel cs x h
  obtain ⟨s, rfl, _, hs⟩ := DataW.trod_int ht h
  exact ⟨s, rfl, hs⟩
theorem Opens.imp {α : Type} {P : Program} {w : World} {e : TypeId} {d : Kd α} {V V' : α → Prop} (h : Opens P w e d V) (hv : ∀ x, V x → V' x) : Opens P w e d V' := by
  intro H enc base spare held fuel cs x hx
  obtain ⟨y, h1, h2⟩ := h enc base spare held fuel cs x hx
  exact ⟨y, h1, hv _ h2⟩
theorem Opens.slice {α : Type} [Inhabited α] {P : Program} {w : World} {t e : TypeId} {d : Kd α} {V : α → Prop} (ht : P.underlying t = some (.slice e)) (hsz : P.cellsOf e = d.sz) (hd : Opens P w e d V) (q : Nat) :
    Opens P w t (Kd.slice q d) (fun xs => ∀ x ∈ xs, V x) := by
  intro H enc base spare held fuel cs x h
  rcases Deep.open_slice ht h with ⟨rfl, _⟩ | ⟨a, len, cap, m, n, D, Pl, rfl, _, hl, hm, hmm, _, hx⟩
  · exact ⟨[], ⟨none, 0, rfl, Nat.le_refl _, Kd.C_nil _ _⟩, by simp⟩
  · have hlm : len ≤ m := by rw [hmm]; split <;> omega
    obtain ⟨Y, hY⟩ := Deep.choose_lt (α := α) (n := len) (p := fun i y => ∃ cs', w.cells? base (a.add (i * P.cellsOf e)) (P.cellsOf e) = some cs' ∧ d.K w y cs' ∧ V y) (by
      intro i hi
      obtain ⟨cs', h1, h2⟩ := hx i (by omega)
      obtain ⟨y, h3, h4⟩ := hd enc base spare held n cs' _ h2
      exact ⟨y, cs', h1, h3, h4⟩)
    refine ⟨(List.range len).map Y, ⟨some a, cap, by simp, by simpa using hl, ?_⟩, ?_⟩
    · refine ⟨rfl, by simp [maxLen] at hm ⊢; omega, fun _ => ⟨a, rfl, fun j p hp => ?_⟩⟩
      rw [List.getElem?_map] at hp
      obtain ⟨i, hi, rfl⟩ := Option.map_eq_some_iff.1 hp
      obtain ⟨hlt, hie⟩ := List.getElem?_eq_some_iff.1 hi
      simp at hlt hie
      subst hie
      obtain ⟨cs', h1, h2, h3⟩ := hY j hlt
      obtain ⟨_, hlen, hc⟩ := World.cells?_some h1
      refine ⟨cs', d.K_len h2, h2, fun i u hu => ?_⟩
      have hi' : i < P.cellsOf e := by rw [← hlen]; exact (List.getElem?_eq_some_iff.1 hu).1
      have := hc i hi'
      rw [Deep.add_add, hsz] at this
      rw [this]; exact hu
    · intro y hy
      obtain ⟨i, hi, rfl⟩ := List.mem_map.1 hy
      obtain ⟨_, _, _, h⟩ := hY i (by simpa using hi)
      exact h

/-- Fields from an offset on. -/
def OpensL {α : Type} (P : Program) (w : World) (fs : List Field) (off : Nat) (d : Kd α) (V : α → Prop) : Prop :=
  ∀ {H : Type} (enc : TypeId × Value → H) (base : Nat) (spare : Nat → Bool) (held : Bool) (fuel : Nat) (cs : List Value),
    cs.length = off + d.sz → (∀ f ∈ fs, ∃ x, DataW.trod enc P w base spare held fuel f.type ((cs.drop f.offset).take (P.cellsOf f.type)) = some x) → ∃ y, d.K w y (cs.drop off) ∧ V y
theorem OpensL.one {α : Type} {P : Program} {w : World} {f : Field} {off : Nat} {d : Kd α} {V : α → Prop} (ho : f.offset = off) (hs : P.cellsOf f.type = d.sz) (hd : Opens P w f.type d V) : OpensL P w [f] off d V := by
  intro H enc base spare held fuel cs hl hf
  obtain ⟨x, hx⟩ := hf f (by simp)
  obtain ⟨y, h1, h2⟩ := hd enc base spare held fuel _ x hx
  refine ⟨y, ?_, h2⟩
  rw [ho, hs, List.take_of_length_le (by simp; omega)] at h1
  exact h1
theorem OpensL.cons {α β : Type} {P : Program} {w : World} {f : Field} {fs : List Field} {off : Nat} {d : Kd α} {d' : Kd β} {V : α → Prop} {V' : β → Prop} (ho : f.offset = off) (hs : P.cellsOf f.type = d.sz) (hd : Opens P w f.type d V)
    (h : OpensL P w fs (off + d.sz) d' V') : OpensL P w (f :: fs) off (Kd.pair d d') (fun y => V y.1 ∧ V' y.2) := by
  intro H enc base spare held fuel cs hl hf
  obtain ⟨x, hx⟩ := hf f (by simp)
  obtain ⟨y, h1, h2⟩ := hd enc base spare held fuel _ x hx
  have hp : (Kd.pair d d').sz = d.sz + d'.sz := rfl
  obtain ⟨z, h3, h4⟩ := h enc base spare held fuel cs (by omega) (fun g hg => hf g (List.mem_cons_of_mem _ hg))
  refine ⟨(y, z), ⟨(cs.drop off).take d.sz, cs.drop (off + d.sz), ?_, ?_, h3⟩, h2, h4⟩
  · rw [← List.drop_drop, List.take_append_drop]
  · rw [ho, hs] at h1; exact h1
theorem Opens.struct {α β : Type} {P : Program} {w : World} {t : TypeId} {fs : Array Field} {d : Kd α} {V : α → Prop} (ht : P.underlying t = some (.struct fs)) (hs : P.cellsOf t = d.sz) (h : OpensL P w fs.toList 0 d V)
    (f : β → α) (g : α → β) (hfg : ∀ a, f (g a) = a) : Opens P w t (Kd.iso d f) (fun y => V (f y)) := by
  intro H enc base spare held fuel cs x hx
  obtain ⟨xs, n, _, _, hl, hxl, hall⟩ := DataW.trod_struct ht hx
  obtain ⟨y, h1, h2⟩ := h enc base spare held n cs (by omega) (by
    intro f hf
    obtain ⟨i, hi⟩ := List.getElem?_of_mem hf
    have hi' : fs[i]? = some f := by simpa using hi
    have hlt : i < xs.length := by rw [hxl]; exact (Array.getElem?_eq_some_iff.1 hi').1
    exact ⟨xs[i], by rw [hall i f hi', List.getElem?_eq_getElem hlt]⟩)
  refine ⟨g y, ?_, by show V (f (g y)); rw [hfg]; exact h2⟩
  show d.K w (f (g y)) cs
  rw [hfg]
  simpa using h1

/-- An argument by its kind. -/
theorem open_slice_arg {α : Type} {P : Program} {w : World} {t : TypeId} {q : Nat} {d : Kd α} {V : List α → Prop} (ho : Opens P w t (Kd.slice q d) V) {H : Type} {enc : TypeId × Value → H} {base : Nat} {spare : Nat → Bool} {held : Bool} {v : Value} {D : DataW H} {p : List MemPlace}
    (hv : ∃ a n c, v = .slice a n c) (h : DataW.Trod enc P w base spare held t v D p) : ∃ A c xs, v = .slice A xs.length c ∧ xs.length ≤ c ∧ d.C w A xs.length xs ∧ V xs := by
  obtain ⟨a, n, c, rfl⟩ := hv
  obtain ⟨fuel, hf⟩ := h
  obtain ⟨xs, ⟨A, c', he, hlc, hC⟩, hV⟩ := ho enc base spare held fuel _ _ hf
  simp [Value.cells] at he
  obtain ⟨rfl, rfl, rfl⟩ := he
  exact ⟨_, _, xs, rfl, hlc, hC, hV⟩
end Go.Proofs.YteoljiclmhmbnaaDoor.K

/-
  An entry of unknown words, and a class, that can be read as data are of their kinds.
-/
set_option linter.unusedVariables false
set_option linter.unusedSimpArgs false
namespace Go.Proofs.YteoljiclmhmbnaaDoor.Tx
open Go.RowKit Go.Proofs.YteoljiclmhmbnaaDoor.K Go.Proofs.YteoljiclmhmbnaaDoorW.PrintWords

set_option maxRecDepth 20000 in
theorem opens_un {w : World} : Opens Tryd.prog w 60 kUn (fun _ => True) := by
  have hs : Opens Tryd.prog w 9 Kd.string (fun s => s.size ≤ maxLen) := Opens.string Tryd.underlying9
  have hl : Opens Tryd.prog w 29 (Kd.slice 9 Kd.string) (fun xs => ∀ x ∈ xs, x.size ≤ maxLen) := Opens.slice Tryd.underlying29 (by kernel_rfl) hs 9
  have hi := @Opens.int _ w 3 _ Tryd.underlying3
  obtain ⟨fs, hfs⟩ : ∃ fs, Tryd.prog.underlying 60 = some (.struct fs) := ⟨_, Tryd.underlying60⟩
  have hl5 : ∃ f0 f1 f2 f3 f4 : Field, fs.toList = [f0, f1, f2, f3, f4] ∧ f0.offset = 0 ∧ f0.type = 3 ∧ f1.offset = 1 ∧ f1.type = 3 ∧ f2.offset = 2 ∧ f2.type = 3 ∧ f3.offset = 3 ∧ f3.type = 3 ∧ f4.offset = 4 ∧ f4.type = 29 := by
    have h := Tryd.underlying60
    rw [hfs] at h
    simp only [Option.some.injEq, TypeDesc.struct.injEq] at h
    subst h
    exact ⟨_, _, _, _, _, rfl, rfl, rfl, rfl, rfl, rfl, rfl, rfl, rfl, rfl, rfl⟩
  obtain ⟨f0, f1, f2, f3, f4, hl5, o0, t0, o1, t1, o2, t2, o3, t3, o4, t4⟩ := hl5
  have c3 : Tryd.prog.cellsOf 3 = 1 := by kernel_rfl
  have c29 : Tryd.prog.cellsOf 29 = 1 := by kernel_rfl
  have k4 := @OpensL.one _ Tryd.prog w f4 4 (Kd.slice 9 Kd.string) _ o4 (by rw [t4]; exact c29) (by rw [t4]; exact @hl)
  have k3 := @OpensL.cons _ _ Tryd.prog w f3 [f4] 3 (Kd.int .i64) _ _ _ o3 (by rw [t3]; exact c3) (by rw [t3]; exact @hi) @k4
  have k2 := @OpensL.cons _ _ Tryd.prog w f2 [f3, f4] 2 (Kd.int .i64) _ _ _ o2 (by rw [t2]; exact c3) (by rw [t2]; exact @hi) @k3
  have k1 := @OpensL.cons _ _ Tryd.prog w f1 [f2, f3, f4] 1 (Kd.int .i64) _ _ _ o1 (by rw [t1]; exact c3) (by rw [t1]; exact @hi) @k2
  have k0 := @OpensL.cons _ _ Tryd.prog w f0 [f1, f2, f3, f4] 0 (Kd.int .i64) _ _ _ o0 (by rw [t0]; exact c3) (by rw [t0]; exact @hi) @k1
  rw [← hl5] at k0
  have h := @Opens.struct _ _ Tryd.prog w 60 fs _ _ hfs (by kernel_rfl) @k0 (fun x : Un => x) (fun x => x) (fun _ => rfl)
  intro H enc base spare held fuel cs x hx
  obtain ⟨y, h1, _⟩ := @h H enc base spare held fuel cs x hx
  exact ⟨y, h1, trivial⟩
set_option maxRecDepth 20000 in
theorem opens_cls {w : World} : Opens Tryd.prog w 52 kCls (fun _ => True) := by
  have hs : Opens Tryd.prog w 9 Kd.string (fun s => s.size ≤ maxLen) := Opens.string Tryd.underlying9
  have hb := @Opens.bool _ w 4 Tryd.underlying4
  obtain ⟨fs, hfs⟩ : ∃ fs, Tryd.prog.underlying 52 = some (.struct fs) := ⟨_, Tryd.underlying52⟩
  have hl3 : ∃ f0 f1 f2 : Field, fs.toList = [f0, f1, f2] ∧ f0.offset = 0 ∧ f0.type = 9 ∧ f1.offset = 1 ∧ f1.type = 4 ∧ f2.offset = 2 ∧ f2.type = 4 := by
    have h := Tryd.underlying52
    rw [hfs] at h
    simp only [Option.some.injEq, TypeDesc.struct.injEq] at h
    subst h
    exact ⟨_, _, _, rfl, rfl, rfl, rfl, rfl, rfl, rfl⟩
  obtain ⟨f0, f1, f2, hl3, o0, t0, o1, t1, o2, t2⟩ := hl3
  have c9 : Tryd.prog.cellsOf 9 = 1 := by kernel_rfl
  have c4 : Tryd.prog.cellsOf 4 = 1 := by kernel_rfl
  have k2 := @OpensL.one _ Tryd.prog w f2 2 Kd.bool _ o2 (by rw [t2]; exact c4) (by rw [t2]; exact @hb)
  have k1 := @OpensL.cons _ _ Tryd.prog w f1 [f2] 1 Kd.bool _ _ _ o1 (by rw [t1]; exact c4) (by rw [t1]; exact @hb) @k2
  have k0 := @OpensL.cons _ _ Tryd.prog w f0 [f1, f2] 0 Kd.string _ _ _ o0 (by rw [t0]; exact c9) (by rw [t0]; exact @hs) @k1
  rw [← hl3] at k0
  have h := @Opens.struct _ _ Tryd.prog w 52 fs _ _ hfs (by kernel_rfl) @k0 (fun x : Cls => x) (fun x => x) (fun _ => rfl)
  intro H enc base spare held fuel cs x hx
  obtain ⟨y, h1, _⟩ := @h H enc base spare held fuel cs x hx
  exact ⟨y, h1, trivial⟩
end Go.Proofs.YteoljiclmhmbnaaDoor.Tx
