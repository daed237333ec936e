/-
  Records of a user dictionary: what a text's records are; the walks of zzHasPrefix, errors.New.
-/
import Derived.Test.YtaniafohcaiedaaUl
import Derived.RegionTactic
import Derived.BigRegion
set_option linter.unusedVariables false
set_option linter.unusedSimpArgs false
namespace Go.Proofs.Ytaniafohcaiedaa.Tx
open Go.RowKit Go.Proofs.Ytaniafohcaiedaa.K Go.Proofs.YtaniafohcaiedaaW.PrintWords

abbrev Rec : Type := ByteArray × List ByteArray × List ByteArray × ByteArray
def kRec : Kd Rec := Kd.pair Kd.string (Kd.pair (Kd.slice 9 Kd.string) (Kd.pair (Kd.slice 9 Kd.string) Kd.string))
def keepLine (x : List UInt8) : Bool := !(x == []) && !(x.head? == some 35)
/-- The lines that are read as records. -/
def texts (l : List UInt8) : List (List UInt8) := ((rawL l).map strip).filter keepLine
def parse1 (x : List UInt8) : Option Rec :=
  match splitC 44 x with
  | [a, b, c, d] => if (splitC 32 b).length = (splitC 32 c).length then some (ofL a, (splitC 32 b).map ofL, (splitC 32 c).map ofL, ofL d) else none
  | _ => none
def parse (l : List UInt8) : Option (List Rec) := (texts l).mapM parse1

set_option maxHeartbeats 1000000 in
set_option maxRecDepth 5000 in
theorem hash_any (x : List UInt8) (w : World) (hx : x ≠ []) (hl : x.length ≤ 8796093022000) :
    Calls Try.prog 57 #[.string (ofL x), .string ⟨#[35]⟩] w fun e w' => e = .returned (.bool (x.head? == some 35)) ∧ w' = w := by
  obtain ⟨m, hm⟩ : ∃ m, x.length = m + 1 := ⟨x.length - 1, by have := List.length_pos_iff.2 hx; omega⟩
  have hz : (ofL x).size = m + 1 := by rw [ofL_size]; exact hm
  have hex := ofL_extract x 0 1
  rw [List.drop_zero, Nat.sub_zero] at hex
  have hh : ((ofL x).extract 0 1).toList = [x.head hx] := by
    rw [hex, ofL_toList]
    cases x with
    | nil => exact absurd rfl hx
    | cons a r => rfl
  have hhd : x.head? = some (x.head hx) := (List.head?_eq_some_head hx)
  rw [hhd]
  generalize x.head hx = c at hh ⊢
  have h35 : (⟨#[35]⟩ : ByteArray).toList = [35] := one_toList 35
  have h1 : (⟨#[35]⟩ : ByteArray).size = 1 := rfl
  generalize (⟨#[35]⟩ : ByteArray) = p at h35 h1 ⊢
  go_enter Try.func57, Try.ntmps57
  have hq : (((ofL x).extract 0 1).toList == p.toList) = (some c == some (35 : UInt8)) := by rw [hh, h35]; simp
  rw [hex, h35] at hq
  rw [hex] at hh
  go_wp2
  go_ret
  exact ⟨by show Ending.returned (.bool (c == 35)) = _; simp, rfl⟩

theorem errNew_any (s : ByteArray) (w : World) : Calls Try.prog 59 #[.string s] w fun e w' => e = .returned (.iface 115 (.pointer (some ⟨w.heap.size, 0, none⟩))) ∧ w' = w.alloc (.cells #[.string s] 117) := by
  go_enter Try.func59, Try.ntmps59
  go_wp2
  go_ret
  exact ⟨rfl, rfl⟩

theorem made_recs (n : Nat) (hn : n ≤ 1099511627776) (W : World) :
    ∃ w', (Instr.makeSlice 63 (.int .i64 0) (.int .i64 n)).run Try.prog W = .ok (.slice (some ⟨W.heap.size, 0, none⟩) 0 n) w' ∧
      kRec.R 69 w' W.heap.size (fun _ => True) (.slice (some ⟨W.heap.size, 0, none⟩) 0 n) [] ∧ Below W.heap.size W w' := by
  obtain ⟨i, hi, hii⟩ := Option.map_eq_some_iff.1 (show (Try.prog.info? 69).map (fun i => (i.zero, i.size, i.bytes)) = some (some (.agg #[.string ⟨#[]⟩, .slice none 0 0, .slice none 0 0, .string ⟨#[]⟩]), 4, 80) by kernel_rfl)
  simp only [Prod.mk.injEq] at hii
  obtain ⟨hz, hsz, hby⟩ := hii
  obtain ⟨w', hrun, hown, hgr⟩ := run_make_own (P := Try.prog) (w := W) W.heap.size 63 69 i _ 4 Try.underlying63 hi hz hsz .i64 .i64 n (by rw [hby]; omega) (by simp only [maxLen]; omega) (Nat.le_refl _)
  exact ⟨w', hrun, ⟨fun _ _ => trivial, [], hown, ⟨by simp, fun j p h => by simp at h⟩⟩, (Below.refl _ _).grown hgr (Nat.le_refl _) (fun k h => by cases h)⟩

theorem splitC_lens (c : UInt8) : ∀ (n : Nat) (l : List UInt8), l.length ≤ n → (splitC c l).length ≤ l.length + 1 ∧ ∀ x ∈ splitC c l, x.length ≤ l.length := by
  intro n
  induction n with
  | zero =>
    intro l hl
    obtain rfl : l = [] := List.eq_nil_of_length_eq_zero (by omega)
    rw [splitC_no (by simp)]
    simp
  | succ n ih =>
    intro l hl
    by_cases h : c ∈ l
    · have hi := List.idxOf_lt_length_of_mem h
      obtain ⟨h1, h2⟩ := ih (l.drop (l.idxOf c + 1)) (by rw [List.length_drop]; omega)
      rw [List.length_drop] at h1 h2
      rw [splitC_ix h]
      refine ⟨by rw [List.length_cons]; omega, fun x hx => ?_⟩
      rcases List.mem_cons.1 hx with rfl | hx
      · rw [List.length_take]; omega
      · have := h2 x hx; omega
    · rw [splitC_no h]
      simp
theorem rawL_lens : ∀ (n : Nat) (l : List UInt8), l.length ≤ n → (rawL l).length ≤ l.length ∧ ∀ x ∈ rawL l, x.length ≤ l.length := by
  intro n
  induction n with
  | zero =>
    intro l hl
    obtain rfl : l = [] := List.eq_nil_of_length_eq_zero (by omega)
    rw [rawL_nil]
    simp
  | succ n ih =>
    intro l hl
    by_cases h0 : l = []
    · subst h0
      rw [rawL_nil]
      simp
    by_cases h : 10 ∈ l
    · have hi := List.idxOf_lt_length_of_mem h
      obtain ⟨h1, h2⟩ := ih (l.drop (l.idxOf 10 + 1)) (by rw [List.length_drop]; omega)
      rw [List.length_drop] at h1 h2
      rw [rawL_ix h0 h]
      refine ⟨by rw [List.length_cons]; omega, fun x hx => ?_⟩
      rcases List.mem_cons.1 hx with rfl | hx
      · rw [List.length_take]; omega
      · have := h2 x hx; omega
    · rw [rawL_no h0 h]
      have := List.length_pos_iff.2 h0
      exact ⟨by simp; omega, by simp⟩
theorem strip_le (x : List UInt8) : (strip x).length ≤ x.length := by
  rw [strip]
  split
  · simp
  · exact Nat.le_refl _
theorem kRec_sz : kRec.sz = 4 := rfl
theorem rec_info : (Try.prog.info? 69).map (fun i => (i.zero, i.size, i.bytes)) = some (some (.agg #[.string ⟨#[]⟩, .slice none 0 0, .slice none 0 0, .string ⟨#[]⟩]), kRec.sz, 80) := by kernel_rfl
theorem rec_cells : (Value.agg #[.string ⟨#[]⟩, .slice none 0 0, .slice none 0 0, .string ⟨#[]⟩]).cells.size = kRec.sz := rfl
theorem rec_pos : 0 < kRec.sz := by decide
theorem mapM_snoc {α β : Type} {f : α → Option β} {T : List α} {rs : List β} (x : α) (h : T.mapM f = some rs) : (T ++ [x]).mapM f = (f x).bind fun r => some (rs ++ [r]) := by
  rw [List.mapM_append, h]
  cases hx : f x with
  | none => simp [List.mapM_cons, hx]
  | some r => simp [List.mapM_cons, hx]
theorem parse1_len {x : List UInt8} (h : (splitC 44 x).length ≠ 4) : parse1 x = none := by
  rw [parse1]
  split
  next a b c d e => rw [e] at h; exact absurd rfl h
  · rfl
theorem parse1_four {x a b c d : List UInt8} (h : splitC 44 x = [a, b, c, d]) : parse1 x = if (splitC 32 b).length = (splitC 32 c).length then some (ofL a, (splitC 32 b).map ofL, (splitC 32 c).map ofL, ofL d) else none := by
  rw [parse1, h]
theorem four_of_len {α : Type} {l : List α} (h : l.length = 4) : ∃ a b c d, l = [a, b, c, d] := by
  match l, h with
  | [a, b, c, d], _ => exact ⟨a, b, c, d, rfl⟩
theorem mapM_none {α β : Type} {f : α → Option β} {T : List α} (k : Nat) (h : (T.take k).mapM f = none) : T.mapM f = none := by
  rw [← List.take_append_drop k T, List.mapM_append, h]
  rfl

theorem R_from {α : Type} {d : Kd α} {e : Nat} {w : World} {base b b' : Nat} {ok : Nat → Prop} {v : Value} {xs : List α} (h : d.R e w base ok v xs) (h1 : b ≤ base) (h2 : b' ≤ base) : d.R e w b' (fun k => b ≤ k) v xs :=
  Kd.R_lower (Kd.R_mono (Kd.R_bound h) (fun k hk => Nat.le_trans h1 hk.2.1)) h2
theorem rec_M {w : World} {base : Nat} {ok : Nat → Prop} {a d : ByteArray} {v v' : Value} {xs ys : List ByteArray} (h : Kd.string.R 9 w base ok v xs) (h' : Kd.string.R 9 w base ok v' ys) :
    kRec.M w base ok (a, xs, ys, d) [.string a, v, v', .string d] :=
  ⟨[.string a], [v, v', .string d], rfl, rfl, [v], [v', .string d], rfl, ⟨v, rfl, h⟩, [v'], [.string d], rfl, ⟨v', rfl, h'⟩, rfl⟩

def RecsRet (l : List UInt8) (w : World) (e : Ending) (w' : World) : Prop :=
  match parse l with
  | some rs => ∃ v, e = .returned (.tuple #[v, .nilIface]) ∧ kRec.R 69 w' w.heap.size (fun _ => True) v rs ∧ Below w.heap.size w w'
  | none => ∃ a, e = .returned (.tuple #[.slice none 0 0, .iface 115 (.pointer (some a))]) ∧ Below w.heap.size w w'

set_option maxHeartbeats 4000000 in
set_option maxRecDepth 5000 in
theorem records_any (l : List UInt8) (w : World) (hl : l.length ≤ 8796093022000) (hn : (rawL l).length ≤ 1099511627776) :
    Calls Try.prog 40 #[.string (ofL l)] w (RecsRet l w) := by
  go_enter Try.func40, Try.ntmps40
  go_wp2_with fail
  refine (lines_any l w (by omega)).mono ?_
  rintro e w1 ⟨v1, rfl, hR1, hl1⟩
  obtain ⟨L, hL⟩ : ∃ L, (rawL l).map strip = L := ⟨_, rfl⟩
  have hLl : L.length ≤ 1099511627776 := by rw [← hL, List.length_map]; exact hn
  have hLx : ∀ x ∈ L, x.length ≤ l.length := by
    intro x hx
    rw [← hL] at hx
    obtain ⟨y, hy, rfl⟩ := List.mem_map.1 hx
    exact Nat.le_trans (strip_le y) ((rawL_lens _ l (Nat.le_refl _)).2 y hy)
  rw [hL] at hR1
  obtain ⟨A1, c1, rfl, _, hC1⟩ := Kd.R_reads hR1
  have hLm : (L.map ofL).length = L.length := by simp
  rw [hLm] at hC1
  rw [hLm]
  have HC1 := Lib.hid hC1
  have HL1 := Lib.hid hl1
  have HLX := Lib.hid hLx
  have HPL := Lib.hid (show parse l = (L.filter keepLine).mapM parse1 by rw [parse, texts, hL])
  clear hR1 hC1 hl1 hLx hL
  go_wp2
  go_loopw [17, 4] (fun i v wr => ∃ k : Nat, k ≤ L.length ∧ i = .int .i64 k ∧ Hid (Kd.string.R 9 wr w1.heap.size (fun _ => True) v (((L.take k).filter keepLine).map ofL)) ∧ Hid (Below w1.heap.size w1 wr)) (fun i _ _ => L.length - (intOf i).toNat)
  case atStart => exact ⟨0, Nat.zero_le _, rfl, Lib.hid (Kd.R_nil _ _ _ _ _), Lib.hid (Below.refl _ _)⟩
  case round =>
    obtain ⟨k, hk, rfl, hR, hbel⟩ := hrel
    have hszr := Nat.le_trans HL1.out.size hbel.out.size
    have hszq := hbel.out.size
    by_cases hlt : k < L.length
    · obtain ⟨ad, hA, hs⟩ := strs_at (Kd.C_below HC1.out hbel.out) k (by rw [List.length_map]; exact hlt)
      subst hA
      rw [List.getElem_map] at hs
      have hxl := HLX.out _ (List.getElem_mem hlt)
      have HTK := Lib.hid (show (L.take (k + 1)).filter keepLine = (L.take k).filter keepLine ++ [L[k]].filter keepLine by rw [List.take_succ_eq_append_getElem hlt, List.filter_append])
      generalize hxx : L[k] = x at hs hxl HTK
      by_cases hx : x = []
      · subst hx
        have hq : (((ofL ([] : List UInt8)).toList) == ([] : List UInt8)) = true := by rw [ofL_toList]; rfl
        have HF := Lib.hid (show ((L.take (k + 1)).filter keepLine).map ofL = ((L.take k).filter keepLine).map ofL by rw [HTK.out]; simp [keepLine])
        go_wp2
        exact ⟨⟨k + 1, by omega, by go_num, Lib.hid (by rw [HF.out]; exact hR.out), hbel⟩, by simp [intOf]; omega⟩
      · have hq : (((ofL x).toList) == ([] : List UInt8)) = false := by rw [ofL_toList]; simpa using hx
        by_cases h35 : x.head? = some 35
        · have HF := Lib.hid (show ((L.take (k + 1)).filter keepLine).map ofL = ((L.take k).filter keepLine).map ofL by rw [HTK.out]; simp [keepLine, h35])
          have HB := Lib.hid (show (x.head? == some 35) = true by rw [h35]; rfl)
          have HH := Lib.hid (hash_any x wr hx (by omega))
          clear hx h35
          go_wp2_with fail
          refine HH.out.mono ?_
          rintro e w3 ⟨rfl, rfl⟩
          rw [HB.out]
          go_wp2
          exact ⟨⟨k + 1, by omega, by go_num, Lib.hid (by rw [HF.out]; exact hR.out), hbel⟩, by simp [intOf]; omega⟩
        · have HF := Lib.hid (show ((L.take (k + 1)).filter keepLine).map ofL = ((L.take k).filter keepLine).map ofL ++ [ofL x] by rw [HTK.out]; simp [keepLine, h35, hx])
          have HB := Lib.hid (show (x.head? == some 35) = false by simpa using h35)
          have HH := Lib.hid (hash_any x wr hx (by omega))
          have hfl : ((L.take k).filter keepLine).length ≤ L.length := Nat.le_trans (List.length_filter_le _ _) (by simp; omega)
          clear hx h35
          go_wp2_with fail
          refine HH.out.mono ?_
          rintro e w3 ⟨rfl, rfl⟩
          rw [HB.out]
          go_wp2_with (at_builtin; refine kapp (w0 := w1) Kd.string w1.heap.size rfl _ _ 31 9 (.string ⟨#[]⟩) 16 rfl Try.underlying31 (by kernel_rfl) rfl (by decide) (by decide) _ (((L.take k).filter keepLine).map ofL) (ofL x) [.string (ofL x)] (fun _ => True) (fun _ => False) _ rfl rfl ?hg rfl (fun _ h => h.elim) (fun _ _ => trivial) (Kd.R_alloc hR.out _) (hbel.out.alloc hbel.out.size _) (by simp; omega) ?hl ?_)
          case hg =>
            intro j u hj
            rw [cell_of_heap (heap_new w3 _)]
            simpa using hj
          case hl => simp; omega
          intro v1 w4 hR4 hB4 hg4 hat4
          clear hg4 hat4
          have HR4 := Lib.hid hR4
          have HB4 := Lib.hid hB4
          clear hR4
          go_wp2
          refine ⟨⟨k + 1, by omega, by go_num, Lib.hid (by rw [HF.out]; exact HR4.out), HB4⟩, by simp [intOf]; omega⟩
    · rename World => wq
      obtain rfl : k = L.length := by omega
      rw [List.take_length] at hR
      obtain ⟨T, hT⟩ : ∃ T, L.filter keepLine = T := ⟨_, rfl⟩
      have hTl : T.length ≤ L.length := by rw [← hT]; exact List.length_filter_le _ _
      have hTx : ∀ x ∈ T, x.length ≤ l.length := fun x hx => HLX.out x (List.mem_filter.1 (hT ▸ hx)).1
      rw [hT] at hR HPL
      have hR1 := hR.out
      obtain ⟨A2, c2, rfl, _, hC2⟩ := Kd.R_reads hR1
      have hTm : (T.map ofL).length = T.length := by simp
      rw [hTm] at hC2
      rw [hTm]
      obtain ⟨w2, hmk, hRm, hBm⟩ := made_recs T.length (by omega) wq
      have HC2 := Lib.hid hC2
      have HRm := Lib.hid hRm
      have HBm := Lib.hid hBm
      have HTX := Lib.hid hTx
      clear hR hR1 hC2 hRm hBm hTx HC1 HLX hT
      go_wp2
      go_loopw [37, 7] (fun i v wx => ∃ (k : Nat) (rs : List Rec), k ≤ T.length ∧ i = .int .i64 k ∧ rs.length = k ∧ Hid ((T.take k).mapM parse1 = some rs) ∧ Hid (kRec.R 69 wx wq.heap.size (fun _ => True) v rs) ∧ Hid (Below wq.heap.size wq wx)) (fun i _ _ => T.length - (intOf i).toNat)
      case atStart => exact ⟨0, [], Nat.zero_le _, rfl, rfl, Lib.hid rfl, HRm, HBm⟩
      case round =>
        clear HRm HBm hmk
        obtain ⟨k, rs, hk, rfl, hrl, hpre, hR, hbx⟩ := hrel
        have hszx := hbx.out.size
        have HBw := Lib.hid ((HL1.out.trans (hbel.out.mono HL1.out.size)).trans (hbx.out.mono hszr))
        have hszw := HBw.out.size
        by_cases hlt : k < T.length
        · obtain ⟨ad, hA, hs⟩ := strs_at (Kd.C_below HC2.out hbx.out) k (by rw [List.length_map]; exact hlt)
          subst hA
          rw [List.getElem_map] at hs
          have hxl := HTX.out _ (List.getElem_mem hlt)
          have HTK := Lib.hid (show (T.take (k + 1)).mapM parse1 = (parse1 T[k]).bind fun r => some (rs ++ [r]) by rw [List.take_succ_eq_append_getElem hlt]; exact mapM_snoc _ hpre.out)
          have HDR := Lib.hid (mapM_none (T := T) (k + 1) (f := parse1))
          generalize hxx : T[k] = x at hs hxl HTK
          have HS := Lib.hid (split_any x 44 wr (by omega))
          rw [show one 44 = ⟨#[44]⟩ from rfl] at HS
          go_wp2_with fail
          refine HS.out.mono ?_
          rintro e w3 ⟨v3, rfl, hR3, hl3⟩
          have hsz3 := hl3.size
          obtain ⟨A3, c3, rfl, _, hC3⟩ := Kd.R_reads hR3
          rw [List.length_map] at hC3
          rw [List.length_map]
          have HL3 := Lib.hid hl3
          obtain ⟨hpl, hpx⟩ := splitC_lens 44 _ x (Nat.le_refl _)
          by_cases h4 : (splitC 44 x).length = 4
          · have hC3' := hC3
            rw [h4] at hC3' ⊢
            obtain ⟨a, b, c, d, h4⟩ := four_of_len h4
            rw [h4] at hC3'
            obtain ⟨ad3, rfl, hs0⟩ := strs_at hC3' 0 (by simp)
            obtain ⟨_, h, hs1⟩ := strs_at hC3' 1 (by simp)
            cases h
            obtain ⟨_, h, hs2⟩ := strs_at hC3' 2 (by simp)
            cases h
            obtain ⟨_, h, hs3⟩ := strs_at hC3' 3 (by simp)
            cases h
            replace hs0 : w3.cell? (ad3.add 0) = some (.string (ofL a)) := hs0
            replace hs1 : w3.cell? (ad3.add 1) = some (.string (ofL b)) := hs1
            replace hs2 : w3.cell? (ad3.add 2) = some (.string (ofL c)) := hs2
            replace hs3 : w3.cell? (ad3.add 3) = some (.string (ofL d)) := hs3
            rw [show ad3.add 0 = ad3 by simp [Addr.add]] at hs0
            rw [show ad3.add 1 = ⟨ad3.block, ad3.off + 1, none⟩ by simp [Addr.add]] at hs1
            rw [show ad3.add 2 = ⟨ad3.block, ad3.off + 2, none⟩ by simp [Addr.add]] at hs2
            rw [show ad3.add 3 = ⟨ad3.block, ad3.off + 3, none⟩ by simp [Addr.add]] at hs3
            rw [h4] at hpx
            have hbl := hpx b (by simp)
            have hcl := hpx c (by simp)
            have HB := Lib.hid (split_any b 32 w3 (by omega))
            have HC := Lib.hid (fun W => split_any c 32 W (by omega))
            rw [show one 32 = ⟨#[32]⟩ from rfl] at HB HC
            have HP4 := Lib.hid (parse1_four h4)
            clear hR3 hl3 hC3 hC3' HS hs h4 hpx hpl
            go_wp2_with fail
            refine HB.out.mono ?_
            rintro e w4 ⟨v4, rfl, hR4, hl4⟩
            have hsz4 := hl4.size
            replace hs0 := (hl4.cell (World.block_lt_of_cell? _ _ hs0)).trans hs0
            replace hs2 := (hl4.cell (World.block_lt_of_cell? _ _ hs2)).trans hs2
            replace hs3 := (hl4.cell (World.block_lt_of_cell? _ _ hs3)).trans hs3
            have HR4 := Lib.hid hR4
            have HL4 := Lib.hid hl4
            clear hR4 hl4
            go_wp2_with fail
            refine (HC.out w4).mono ?_
            rintro e w5 ⟨v5, rfl, hR5, hl5⟩
            have hsz5 := hl5.size
            replace hs0 := (hl5.cell (World.block_lt_of_cell? _ _ hs0)).trans hs0
            replace hs3 := (hl5.cell (World.block_lt_of_cell? _ _ hs3)).trans hs3
            obtain ⟨A4, c4, hv4⟩ := Kd.R_slice HR4.out
            obtain ⟨A5, c5, hv5⟩ := Kd.R_slice hR5
            rw [List.length_map] at hv4 hv5
            subst hv4 hv5
            have HR4 := Lib.hid (Kd.R_below HR4.out hl5)
            have HR5 := Lib.hid hR5
            have HL5 := Lib.hid hl5
            clear hR5 hl5
            obtain ⟨nb, hnb⟩ : ∃ n, (splitC 32 b).length = n := ⟨_, rfl⟩
            obtain ⟨nc, hnc⟩ : ∃ n, (splitC 32 c).length = n := ⟨_, rfl⟩
            have hnb1 : nb ≠ 0 := fun h => splitC_ne 32 b (List.eq_nil_of_length_eq_zero (hnb.trans h))
            have hnb2 : nb ≤ b.length + 1 := hnb ▸ (splitC_lens 32 _ b (Nat.le_refl _)).1
            have hnc2 : nc ≤ c.length + 1 := hnc ▸ (splitC_lens 32 _ c (Nat.le_refl _)).1
            rw [hnb] at HR4 HP4 ⊢
            rw [hnc] at HR5 HP4 ⊢
            have HW5 := Lib.hid (((HBw.out.trans (HL3.out.mono hszw)).trans (HL4.out.mono (by omega))).trans (HL5.out.mono (by omega)))
            have HX5 := Lib.hid (((hbx.out.trans (HL3.out.mono hszx)).trans (HL4.out.mono (by omega))).trans (HL5.out.mono (by omega)))
            clear hnb hnc HB HC hs1 hs2
            by_cases heq : nb = nc
            · subst heq
              have hq : ((nb : Int) != nb) = false := by simp
              have hq0 : ((nb : Int) == 0) = false := by simp; omega
              go_wp2_with fail
              have ha0 : ∀ o, (w5.alloc o).cell? ad3 = some (.string (ofL a)) := fun o => (((Below.refl _ w5).alloc (Nat.le_refl _) o).cell (World.block_lt_of_cell? _ _ hs0)).trans hs0
              have ha3 : ∀ o, (w5.alloc o).cell? ⟨ad3.block, ad3.off + 3, none⟩ = some (.string (ofL d)) := fun o => (((Below.refl _ w5).alloc (Nat.le_refl _) o).cell (World.block_lt_of_cell? _ _ hs3)).trans hs3
              go_region
              have HY5 := Lib.hid ((HL3.out.trans (HL4.out.mono hsz3)).trans (HL5.out.mono (Nat.le_trans hsz3 hsz4)))
              replace HP4 := Lib.hid (HP4.out.trans (if_pos trivial))
              generalize hw6 : (w5.alloc (.cells #[.string (ofL a), .slice A4 nb c4, .slice A5 nb c5, .string (ofL d)] 69)).drew = w6
              have g6 : w6.heap[w5.heap.size]? = some (.cells #[.string (ofL a), .slice A4 nb c4, .slice A5 nb c5, .string (ofL d)] 69 (0, 0)) := hw6 ▸ heap_alloc_new w5 _
              have hz6 : w6.heap.size = w5.heap.size + 1 := by rw [← hw6]; simp
              have b6 : Below w5.heap.size w5 w6 := hw6 ▸ ((Below.refl _ w5).alloc (Nat.le_refl _) _).drew
              have B6 := Lib.hid b6
              have G6 := Lib.hid g6
              have e0 : w6.cell? ⟨w5.heap.size, 0, none⟩ = some (.string (ofL a)) := cell_of_heap g6 0
              have e1 : w6.cell? ⟨w5.heap.size, 1, none⟩ = some (.slice A4 nb c4) := cell_of_heap g6 1
              have e2 : w6.cell? ⟨w5.heap.size, 2, none⟩ = some (.slice A5 nb c5) := cell_of_heap g6 2
              have e3 : w6.cell? ⟨w5.heap.size, 3, none⟩ = some (.string (ofL d)) := cell_of_heap g6 3
              have HY6 := Lib.hid (HY5.out.trans (B6.out.mono (by omega)))
              have HX6 := Lib.hid (HX5.out.trans (B6.out.mono (by omega)))
              have HR6 := Lib.hid (Kd.R_below hR.out HY6.out)
              have hszx6 := HX6.out.size
              have hszy6 := HY6.out.size
              have hz6a : w6.heap.size ≤ w5.heap.size + 1 := by omega
              have hz6b : w5.heap.size + 1 ≤ w6.heap.size := by omega
              clear hw6 b6 ha0 ha3 hs0 hs3 g6 hz6
              go_wp2_with (at_builtin; refine kapp (w0 := wq) kRec wq.heap.size rfl _ _ 63 69 (.agg #[.string ⟨#[]⟩, .slice none 0 0, .slice none 0 0, .string ⟨#[]⟩]) 80 rfl Try.underlying63 rec_info rec_cells rec_pos (by decide) _ rs (ofL a, (splitC 32 b).map ofL, (splitC 32 c).map ofL, ofL d) [.string (ofL a), .slice A4 nb c4, .slice A5 nb c5, .string (ofL d)] (fun _ => True) (fun k => wr.heap.size ≤ k) w6.heap.size rfl rfl ?hg ?hp ?hok (fun _ _ => trivial) (Kd.R_alloc HR6.out _) (HX6.out.alloc (by omega) _) (by simp; omega) ?hl ?_)
              case hg =>
                intro j u hj
                rw [cell_of_heap (heap_new w6 _)]
                simpa using hj
              case hp =>
                have h4 := Kd.R_alloc (Kd.R_below HR4.out B6.out) (.cells #[.string (ofL a), .slice A4 nb c4, .slice A5 nb c5, .string (ofL d)] 69)
                have h5 := Kd.R_alloc (Kd.R_below HR5.out B6.out) (.cells #[.string (ofL a), .slice A4 nb c4, .slice A5 nb c5, .string (ofL d)] 69)
                exact rec_M (R_from h4 (by omega) (by omega)) (R_from h5 (by omega) (by omega))
              case hok =>
                intro j hj
                refine ⟨trivial, fun he => ?_⟩
                have := Kd.R_lt hR.out j he.symm
                omega
              case hl => omega
              intro v7 w7 hR7 hB7 hg7 hat7
              have HR7 := Lib.hid hR7
              have HB7 := Lib.hid hB7
              have HTS := Lib.hid (show (T.take (k + 1)).mapM parse1 = some (rs ++ [(ofL a, (splitC 32 b).map ofL, (splitC 32 c).map ofL, ofL d)]) by rw [HTK.out, HP4.out]; rfl)
              clear hg7 hat7 hR7 hB7 HP4 HTK
              go_wp2
              exact ⟨⟨k + 1, rs ++ [(ofL a, (splitC 32 b).map ofL, (splitC 32 c).map ofL, ofL d)], by omega, by go_num, by simp; omega, HTS, HR7, HB7⟩, by simp [intOf]; omega⟩
            · have hq : ((nb : Int) != nc) = true := by simp; omega
              have hq0 : ((nb : Int) == 0) = false := by simp; omega
              have HPN := Lib.hid (HPL.out.trans (HDR.out (by rw [HTK.out, HP4.out, if_neg heq]; rfl)))
              have HE := Lib.hid (errNew_any ⟨#[105, 110, 118, 97, 108, 105, 100, 32, 102, 111, 114, 109, 97, 116]⟩ w5)
              go_wp2_with fail
              refine HE.out.mono ?_
              rintro e w6 ⟨rfl, rfl⟩
              go_wp2
              go_ret2
              show RecsRet l w _ _
              rw [RecsRet, HPN.out]
              exact ⟨_, rfl, Below.alloc HW5.out (by omega) _⟩
          · have HPN := Lib.hid (HPL.out.trans (HDR.out (by rw [HTK.out, parse1_len h4]; rfl)))
            have h4' : ((splitC 44 x).length : Int) ≠ 4 := by omega
            have HE := Lib.hid (errNew_any ⟨#[105, 110, 118, 97, 108, 105, 100, 32, 102, 111, 114, 109, 97, 116]⟩ w3)
            generalize (splitC 44 x).length = n4 at h4' hpl ⊢
            clear hR3 hl3 hC3 h4
            go_wp2_with fail
            refine HE.out.mono ?_
            rintro e w4 ⟨rfl, rfl⟩
            go_wp2
            go_ret2
            show RecsRet l w _ _
            rw [RecsRet, HPN.out]
            exact ⟨_, rfl, Below.alloc (HBw.out.trans (HL3.out.mono hszw)) (by omega) _⟩
        · obtain rfl : k = T.length := by omega
          rw [List.take_length] at hpre
          have HPS := Lib.hid (HPL.out.trans hpre.out)
          go_wp2
          go_ret2
          show RecsRet l w _ _
          rw [RecsRet, HPS.out]
          exact ⟨_, rfl, Kd.R_lower hR.out hszr, HBw.out⟩
end Go.Proofs.Ytaniafohcaiedaa.Tx
