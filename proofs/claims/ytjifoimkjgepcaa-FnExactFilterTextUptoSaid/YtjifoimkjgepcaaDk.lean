/-
  The walk of seekAndMark.
-/
import Derived.Test.YtjifoimkjgepcaaDs
import Derived.ScopeJumps
import Derived.WalkMore
set_option linter.unusedVariables false
set_option linter.unusedSimpArgs false
namespace Go.Proofs.Ytjifoimkjgepcaa.Da
open Go.RowKit Go.Proofs.Ytjifoimkjgepcaa.K Go.Proofs.YtjifoimkjgepcaaW.PrintWords

/-- Characters in memory. -/
def Chars (cb : Nat) (chars : List Nat) (w : World) : Prop := ∀ j (h : j < chars.length), w.cell? ⟨cb, j, none⟩ = some (.int .u8 (chars[j] : Int))
theorem Chars.keep {cb : Nat} {chars : List Nat} {w w' : World} (h : Chars cb chars w) (hb : w'.heap[cb]? = w.heap[cb]?) : Chars cb chars w' := fun j hj => (World.cell?_of_block (w := w) (a := ⟨cb, j, none⟩) hb).trans (h j hj)

/-- The frame of seekAndMark at its label. -/
def AtLabel (dp cb p n cap rep f : Nat) (a : Act) : Prop := ∃ x8 x10 x11 x19 x20 x21 x22 x23 x24 x25 x26 x27 x28 x29 x30 x31 x32 x33 x34 x35 x36 x37 x38 x39 x40 x41 x42 x43 x44 x45 x46 x47 x48 x49 x50 x51 x52 x53 x54 x55 x56 x57 x58 x59 x60 x61 x62 x63 x64 x65 x66 x67 x68 x69 x70 x71 x72 x73 x74 x75 x76 x77 x78 x79 : Value, a = { tmps := #[.pointer (some ⟨dp, 0, none⟩), .int .i64 p, .slice (some ⟨cb, 0, none⟩) n cap, undef, undef, undef, .int .i64 f, .int .i64 rep, x8, undef, x10, x11, undef, undef, undef, .slice (some ⟨cb, 0, none⟩) n cap, .pointer (some ⟨cb, 0, none⟩), .int .u8 rep, .int .i64 rep, x19, x20, x21, x22, x23, x24, x25, x26, x27, x28, x29, x30, x31, x32, x33, x34, x35, x36, x37, x38, x39, x40, x41, x42, x43, x44, x45, x46, x47, x48, x49, x50, x51, x52, x53, x54, x55, x56, x57, x58, x59, x60, x61, x62, x63, x64, x65, x66, x67, x68, x69, x70, x71, x72, x73, x74, x75, x76, x77, x78, x79, undef, undef, undef, undef, undef, undef, undef, undef, undef, undef, undef, undef, undef, undef, undef, undef, undef, undef, undef, undef, undef, undef, undef, undef, undef, undef, undef, undef, undef, undef, undef, undef, undef, undef], defers := [] }
theorem wp_skip_seq {P : Program} {a : Act} {w : World} {Q : Exit → Act → World → Prop} {r : Code} (h : r.wp P Q a w) : (Code.skip.seq r).wp P Q a w := wp_seq (wp_skip h)
theorem scope_jumps {P : Program} {a : Act} {w : World} {Q : Exit → Act → World → Prop} {c r : Code} (l : Nat) (J : Act → World → Prop) (μ : Act → World → Nat) (hf : findLabel c l = some (Code.skip.seq r)) (a0 : Act) (w0 : World) (hJ : J a0 w0)
    (first : r.wp P (Exit.jump l J Q) a0 w0 → c.wp P (Exit.jump l J Q) a w) (pass : ∀ a w, J a w → r.wp P (Exit.jump l (fun a' w' => J a' w' ∧ μ a' w' < μ a w) Q) a w) : (Code.scope c).wp P Q a w :=
  wp_scope_jumps l J μ hf (first (wp_mono (pass a0 w0 hJ) (fun e a w h => by cases e <;> first | exact h | exact ⟨h.1, h.2.1⟩))) (fun a w hJ => wp_skip_seq (pass a w hJ))

/-- Grown or not: what is used stays. -/
structure Same (A A1 : DA) : Prop where
  n : A.n ≤ A1.n
  us : ∀ i, Us A1 i ↔ Us A i
  c : ∀ i, Us A i → A1.c i = A.c i
  b : ∀ i, Us A i → A1.b i = A.b i
theorem Same.refl (A : DA) : Same A A := ⟨Nat.le_refl _, fun _ => Iff.rfl, fun _ _ => rfl, fun _ _ => rfl⟩
theorem Same.grown {A A1 : DA} {M : Nat} (h : Same A A1) (hi : Inv A1 M) : Same A (grown A1) :=
  ⟨by have := h.n; show A.n ≤ 2 * A1.n; omega, fun i => (grown_us hi i).trans (h.us i), fun i hu => (grown_old hi ((h.us i).2 hu)).1.trans (h.c i hu), fun i hu => (grown_old hi ((h.us i).2 hu)).2.trans (h.b i hu)⟩
theorem Opened.same {A A1 A' : DA} {p B : Nat} {chars : List Nat} (h : Opened A1 A' p B chars) (s : Same A A1) : Opened A A' p B chars := by
  refine ⟨⟨Nat.le_trans s.n h.ext.n, fun i hu => h.ext.us i ((s.us i).2 hu), fun i hu h0 => (h.ext.c i ((s.us i).2 hu) h0).trans (s.c i hu), fun i hu hx => (h.ext.b i ((s.us i).2 hu) hx).trans (s.b i hu), fun i hu h0 => ?_⟩, h.base, h.pos, fun ch hch => ?_, fun i hu => ?_⟩
  · rcases h.ext.fresh i hu h0 with h1 | ⟨q, hq, hor, hu'⟩
    · exact .inl ((s.us i).1 h1)
    · exact .inr ⟨q, hq, hor.imp id (fun hn hq' => hn ((s.us q).2 hq')), hu'⟩
  · obtain ⟨h1, h2, h3, h4⟩ := h.kids ch hch
    exact ⟨h1, h2, fun hu => h3 ((s.us _).2 hu), h4⟩
  · rcases h.only i hu with h1 | h1
    · exact .inl ((s.us i).1 h1)
    · exact .inr h1

/-- What holds when the search stands at a free cell, or at 0, and has failed so far. -/
def Stand (dp g : Nat) (A : DA) (M rep : Nat) (w : World) (f : Nat) (w1 : World) : Prop :=
  ∃ A1 g1, Arr dp g1 A1 w1 ∧ Inv A1 M ∧ Same A A1 ∧ At A1 f ∧ f ≤ max M rep ∧ (g1 = g ∨ w.heap.size ≤ g1) ∧ Kp dp g w w1
set_option maxHeartbeats 1000000 in
set_option maxRecDepth 100000 in
theorem seek_any (dp g cb cap : Nat) (A : DA) (M p : Nat) (chars : List Nat) (w : World) (ha : Arr dp g A w) (hi : Inv A M) (hM : M + 256 ≤ 268435456) (hp : Us A p)
    (hch : Chars cb chars w) (hcd : cb ≠ dp) (hcg : cb ≠ g) (hcl : cb < w.heap.size) (hne : 0 < chars.length) (hlen : chars.length ≤ 100000) (hasc : chars.Pairwise (· < ·)) (hby : ∀ c ∈ chars, c ≤ 255) (h0 : p = 0 → M = 0 ∧ 1 ≤ chars[0]!) :
    Calls Try.prog 97 #[.pointer (some ⟨dp, 0, none⟩), .int .i64 p, .slice (some ⟨cb, 0, none⟩) chars.length cap] w fun e w' => e = .returned (.tuple #[]) ∧ ∃ A' g' B, Arr dp g' A' w' ∧ Inv A' (M + 256) ∧ Opened A A' p B chars ∧ (g' = g ∨ w.heap.size ≤ g') ∧ Kp dp g w w' := by
  have hrc := hch 0 hne
  obtain ⟨rep, hrep⟩ : ∃ rep, rep = chars[0] := ⟨_, rfl⟩
  rw [← hrep] at hrc
  have hr255 : rep ≤ 255 := by rw [hrep]; exact hby _ (List.getElem_mem _)
  have HP := Lib.hid hrep
  have HA := Lib.hid ha
  have HC := Lib.hid hch
  have HB := Lib.hid hby
  have HS := Lib.hid hasc
  have H0 := Lib.hid h0
  clear hrep ha hch hby hasc h0
  go_enter Try.func97, Try.ntmps97
  go_wp2_with fail
  obtain ⟨J, HJ⟩ : ∃ J : Act → World → Prop, Hid (J = fun a w1 => ∃ f, AtLabel dp cb p chars.length cap rep f a ∧ Stand dp g A M rep w f w1) := ⟨_, Lib.hid rfl⟩
  refine scope_jumps 0 J (fun a _ => max M rep + 1 - (intOf a.tmps[6]!).toNat) rfl { tmps := #[.pointer (some ⟨dp, 0, none⟩), .int .i64 p, .slice (some ⟨cb, 0, none⟩) chars.length cap, undef, undef, undef, .int .i64 0, .int .i64 rep, .int .i64 0, undef, undef, undef, undef, undef, undef, .slice (some ⟨cb, 0, none⟩) chars.length cap, .pointer (some ⟨cb, 0, none⟩), .int .u8 rep, .int .i64 rep, undef, undef, undef, undef, undef, undef, undef, undef, undef, undef, undef, undef, undef, undef, undef, undef, undef, undef, undef, undef, undef, undef, undef, undef, undef, undef, undef, undef, undef, undef, undef, undef, undef, undef, undef, undef, undef, undef, undef, undef, undef, undef, undef, undef, undef, undef, undef, undef, undef, undef, undef, undef, undef, undef, undef, undef, undef, undef, undef, undef, undef, undef, undef, undef, undef, undef, undef, undef, undef, undef, undef, undef, undef, undef, undef, undef, undef, undef, undef, undef, undef, undef, undef, undef, undef, undef, undef, undef, undef, undef, undef, undef, undef, undef, undef], defers := [] } w ?hJ (fun h => ?first) ?pass
  case hJ => rw [HJ.out]; exact ⟨0, ⟨_, _, _, _, _, _, _, _, _, _, _, _, _, _, _, _, _, _, _, _, _, _, _, _, _, _, _, _, _, _, _, _, _, _, _, _, _, _, _, _, _, _, _, _, _, _, _, _, _, _, _, _, _, _, _, _, _, _, _, _, _, _, _, _, rfl⟩, A, g, HA.out, hi, Same.refl A, .inl rfl, Nat.zero_le _, .inl rfl, Kp.refl _ _ _⟩
  case first =>
    generalize Exit.jump _ _ _ = Q at h ⊢
    go_wp2_with fail
    refine wp_label ?_
    rename_i hK
    exact hK _ _ h
  case pass =>
    intro a w1 hJ
    rw [HJ.out] at hJ
    obtain ⟨f, ⟨x8, x10, x11, x19, x20, x21, x22, x23, x24, x25, x26, x27, x28, x29, x30, x31, x32, x33, x34, x35, x36, x37, x38, x39, x40, x41, x42, x43, x44, x45, x46, x47, x48, x49, x50, x51, x52, x53, x54, x55, x56, x57, x58, x59, x60, x61, x62, x63, x64, x65, x66, x67, x68, x69, x70, x71, x72, x73, x74, x75, x76, x77, x78, x79, rfl⟩, hS⟩ := hJ
    have HS0 := Lib.hid hS
    clear hS
    go_wp2_with fail
    go_loopw [6, 8] (fun fv bv wr => ∃ f' : Nat, fv = .int .i64 f' ∧ f ≤ f' ∧ Hid (Stand dp g A M rep w f' wr)) (fun fv _ _ => max M rep + 1 - (intOf fv).toNat)
    case atStart => exact ⟨f, rfl, Nat.le_refl _, HS0⟩
    case round =>
      obtain ⟨f', rfl, hff, HST⟩ := hrel
      obtain ⟨A1, g1, a1, i1, s1, at1, le1, gg1, k1⟩ := HST.out
      have hsz := i1.size
      have hfn : f' < A1.n := by
        have := i1.big
        rcases at1 with h | h
        · omega
        · exact fr_lt h
      obtain ⟨ff, hfi⟩ := i1.first
      have e0 := i1.c0 _ hfi
      have hv : wr.cell? ⟨dp, 0, none⟩ = some (.slice (some ⟨g1, 0, none⟩) A1.n A1.n) := a1.cv
      have hc0 : wr.cell? ⟨g1, 1, none⟩ = some (.int .i32 (-(ff : Int))) := by rw [← e0]; exact a1.cc (i := 0) (by omega)
      obtain ⟨x, hx⟩ : ∃ x : Nat, A1.c f' = -(x : Int) := by
        rcases at1 with h | h
        · exact ⟨ff, by rw [h]; exact e0⟩
        · obtain ⟨s, hs⟩ := i1.next h
          exact ⟨s, (i1.ring _ _ hs).1⟩
      have hcx : wr.cell? ⟨g1, f' * 2 + 1, none⟩ = some (.int .i32 (-(x : Int))) := by rw [← hx]; exact a1.cc hfn
      have HA1 := Lib.hid a1
      have HI1 := Lib.hid i1
      have HS1 := Lib.hid s1
      have HT1 := Lib.hid at1
      have HG1 := Lib.hid gg1
      have HK1 := Lib.hid k1
      have HX := Lib.hid hx
      have HE0 := Lib.hid e0
      have HF := Lib.hid hfi
      clear a1 i1 s1 at1 gg1 k1 hx e0 hfi
      refine wp_block ?_
      refine wp_seq_k (fun K hK => ?_)
      go_cut [] (fun wx => ∃ A2 g2, Hid (Arr dp g2 A2 wx) ∧ Hid (Inv A2 M) ∧ Hid (Same A A2) ∧ Hid (At A2 f') ∧ Hid (f' ≠ 0 → ¬ Last A2 f') ∧ Hid (g2 = g ∨ w.heap.size ≤ g2) ∧ Hid (Kp dp g w wx))
      case first =>
        by_cases hf0 : f' = 0
        · have hg1 : ((f' : Int) != 0) = false := by simp [hf0]
          go_wp2_with fail
          go_quiet (fail)
          go_wp2_with fail
          go_meet
          refine ⟨A1, g1, Lib.hid ⟨HA1.out.var, HA1.out.arr⟩, HI1, HS1, HT1, Lib.hid (fun h => absurd hf0 h), HG1, Lib.hid ⟨HK1.out.os, HK1.out.tape, HK1.out.output, HK1.out.size, HK1.out.block⟩⟩
        · have hg1 : ((f' : Int) != 0) = true := by simp [hf0]
          have hfr : Fr A1 f' := by
            rcases HT1.out with h | h
            · exact absurd h hf0
            · exact h
          by_cases he : (-(x : Int)) = -(ff : Int)
          · have hb : (-(x : Int) == -(ff : Int)) = true := by simpa using he
            have HL : Hid (Last A1 f') := Lib.hid ((at_last HI1.out hfr).1 (by rw [HX.out, HE0.out, he]))
            have HQ : Hid (A1.n ≤ M + 3) := Lib.hid (seek_wrap HI1.out HL.out (by rcases HST.out with ⟨_, _, _, _, _, _, h, _⟩; exact h) hr255)
            have HFR := Lib.hid hfr
            clear hfr he
            go_wp2_with fail
            go_quiet (fail)
            have A0 : Hid (Arr dp g1 A1 (wr.drewN nq)) := Lib.hid ⟨HA1.out.var, HA1.out.arr⟩
            have K0 : Hid (Kp dp g w (wr.drewN nq)) := Lib.hid ⟨HK1.out.os, HK1.out.tape, HK1.out.output, HK1.out.size, HK1.out.block⟩
            generalize wr.drewN nq = w2 at A0 K0 ⊢
            clear hv hc0 hcx
            go_wp2_with fail
            refine (expand_any dp g1 A1 M w2 A0.out HI1.out).mono ?_
            rintro e w3 ⟨rfl, g2, h2, hg2, hk2⟩
            have HY1 := Lib.hid h2
            have HY2 := Lib.hid hg2
            have HY3 := Lib.hid hk2
            clear h2 hg2 hk2
            go_wp2_with fail
            go_meet
            refine ⟨grown A1, g2, HY1, Lib.hid (grown_inv HI1.out HQ.out), Lib.hid (HS1.out.grown HI1.out), Lib.hid (.inr ((grown_fr HI1.out _).2 (.inl HFR.out))), Lib.hid (fun _ => grown_not_last HI1.out HFR.out), Lib.hid (.inr (Nat.le_trans K0.out.size HY2.out)), Lib.hid (K0.out.trans HY3.out HG1.out)⟩
          · have hb : (-(x : Int) == -(ff : Int)) = false := by simpa using he
            have HL : Hid (¬ Last A1 f') := Lib.hid (fun h => he (by have := (at_last HI1.out hfr).2 h; rw [HX.out, HE0.out] at this; exact this))
            clear hfr he
            go_wp2_with fail
            go_quiet (fail)
            go_wp2_with fail
            go_meet
            exact ⟨A1, g1, Lib.hid ⟨HA1.out.var, HA1.out.arr⟩, HI1, HS1, HT1, Lib.hid (fun _ => HL.out), HG1, Lib.hid ⟨HK1.out.os, HK1.out.tape, HK1.out.output, HK1.out.size, HK1.out.block⟩⟩
      case rest =>
        obtain ⟨A2, g2, HA2, HI2, HS2, HT2, HL2, HG2, HK2⟩ := hcut
        have hle : f' ≤ max M rep := by rcases HST.out with ⟨_, _, _, _, _, _, h, _⟩; exact h
        obtain ⟨f2, hc2, hfr2, hlt2, hle2⟩ := seek_next HI2.out HT2.out hle hr255 HL2.out
        have hsz2 := HI2.out.size
        have hfn2 : f' < A2.n := by
          have := HI2.out.big
          rcases HT2.out with h | h
          · omega
          · exact fr_lt h
        have hfn3 := fr_lt hfr2
        have hv2 : wc.cell? ⟨dp, 0, none⟩ = some (.slice (some ⟨g2, 0, none⟩) A2.n A2.n) := HA2.out.cv
        have hcx2 : wc.cell? ⟨g2, f' * 2 + 1, none⟩ = some (.int .i32 (-(f2 : Int))) := by rw [← hc2]; exact HA2.out.cc hfn2
        have HC2 := Lib.hid hc2
        have HFR2 := Lib.hid hfr2
        have HLE := Lib.hid hle
        have HLE2 := Lib.hid hle2
        clear hc2 hfr2 hv hc0 hcx hle hle2
        by_cases hb : f2 ≤ rep
        · have hb1 : decide ((f2 : Int) - (rep : Int) ≤ 0) = true := by simp; omega
          have HST2 : Hid (Stand dp g A M rep w f2 wc) := Lib.hid ⟨A2, g2, HA2.out, HI2.out, HS2.out, .inr HFR2.out, by omega, HG2.out, HK2.out⟩
          go_wp2_with fail
          exact ⟨⟨f2, rfl, by omega, HST2⟩, by simp [intOf]; omega⟩
        · obtain ⟨B, hB⟩ : ∃ B, B = f2 - rep := ⟨_, rfl⟩
          have hbz : (f2 : Int) - (rep : Int) = (B : Int) := by omega
          have hb1 : decide ((B : Int) ≤ 0) = false := by simp; omega
          have hB1 : 1 ≤ B := by omega
          have hB2 : rep + B = f2 := by omega
          have HBZ := Lib.hid hB2
          clear hB hB2
          go_wp2_with fail
          clear hbz hb1 hcx2
          go_loop [55] (fun j => ∃ k : Nat, k ≤ chars.length ∧ j = .int .i64 k ∧ Hid (∀ i (h : i < chars.length), i < k → A2.n ≤ B + chars[i] ∨ Fr A2 (B + chars[i]))) (fun j => chars.length - (intOf j).toNat)
          case atStart => exact ⟨0, Nat.zero_le _, rfl, Lib.hid (fun i _ h => by omega)⟩
          case round =>
            obtain ⟨k, hk, rfl, HFI⟩ := hrel
            by_cases hlt : k < chars.length
            · obtain ⟨ch, hch⟩ : ∃ ch, ch = chars[k] := ⟨_, rfl⟩
              have hcc : wc.cell? ⟨cb, k, none⟩ = some (.int .u8 (ch : Int)) := by
                rw [hch]
                exact (HC.out.keep (HK2.out.block cb hcl hcd hcg)) k hlt
              have h255 : ch ≤ 255 := by rw [hch]; exact HB.out _ (List.getElem_mem _)
              have HCH := Lib.hid hch
              clear hch
              have hBb : (B : Int) ≤ 536870918 := by have := HBZ.out; omega
              obtain ⟨q, hqe⟩ : ∃ q, q = B + ch := ⟨_, rfl⟩
              have hqz : (B : Int) + (ch : Int) = (q : Int) := by omega
              have HQE := Lib.hid hqe
              clear hqe
              by_cases hq : q < A2.n
              · have hq1 : decide (q < A2.n) = true := by simpa using hq
                obtain ⟨y, hy⟩ : ∃ y, y = A2.c q := ⟨_, rfl⟩
                have hcy : wc.cell? ⟨g2, q * 2 + 1, none⟩ = some (.int .i32 y) := by rw [hy]; exact HA2.out.cc hq
                have HY := Lib.hid hy
                clear hy
                by_cases hy0 : 0 ≤ y
                · have hy1 : decide (0 ≤ y) = true := by simpa using hy0
                  have HST2 : Hid (Stand dp g A M rep w f2 wc) := Lib.hid (by
                    have hus : Us A2 q := ⟨hq, .inr (by rw [← HY.out]; exact hy0)⟩
                    have := HI2.out.us q hus
                    have h1 := HBZ.out
                    have h2 := HQE.out
                    have h3 : rep ≤ ch := by
                      rw [HP.out, HCH.out]
                      rcases Nat.eq_zero_or_pos k with hk0 | hk0
                      · subst hk0; exact Nat.le_refl _
                      · exact Nat.le_of_lt (List.pairwise_iff_getElem.1 HS.out 0 k hne hlt hk0)
                    exact ⟨A2, g2, HA2.out, HI2.out, HS2.out, .inr HFR2.out, by omega, HG2.out, HK2.out⟩)
                  have hle2 := HLE2.out
                  have hle := HLE.out
                  have hbz := HBZ.out
                  go_wp2_with fail
                  go_step3
                  refine ⟨rfl, ?_, ?_⟩
                  · rw [HJ.out]
                    exact ⟨f2, ⟨_, _, _, _, _, _, _, _, _, _, _, _, _, _, _, _, _, _, _, _, _, _, _, _, _, _, _, _, _, _, _, _, _, _, _, _, _, _, _, _, _, _, _, _, _, _, _, _, _, _, _, _, _, _, _, _, _, _, _, _, _, _, _, _, rfl⟩, HST2.out⟩
                  · simp [intOf]
                    omega
                · have hy1 : decide (0 ≤ y) = false := by simpa using hy0
                  have HFI2 : Hid (∀ i (h : i < chars.length), i < k + 1 → A2.n ≤ B + chars[i] ∨ Fr A2 (B + chars[i])) := Lib.hid (by
                    intro i h hik
                    by_cases hie : i = k
                    · subst hie
                      rw [← HCH.out, ← HQE.out]
                      have := HQE.out
                      exact .inr ⟨by omega, hq, by rw [← HY.out]; omega⟩
                    · exact HFI.out i h (by omega))
                  go_wp2_with fail
                  exact ⟨⟨k + 1, by omega, by go_num, HFI2⟩, by simp [intOf]; omega⟩
              · have hq2 : decide (q < A2.n) = false := by simpa using hq
                have HFI2 : Hid (∀ i (h : i < chars.length), i < k + 1 → A2.n ≤ B + chars[i] ∨ Fr A2 (B + chars[i])) := Lib.hid (by
                  intro i h hik
                  by_cases hie : i = k
                  · subst hie
                    rw [← HCH.out, ← HQE.out]
                    exact .inl (by omega)
                  · exact HFI.out i h (by omega))
                go_wp2_with fail
                exact ⟨⟨k + 1, by omega, by go_num, HFI2⟩, by simp [intOf]; omega⟩
            · obtain rfl : k = chars.length := by omega
              have hfits : Fits A2 B chars := by
                intro c hc
                obtain ⟨i, hi', rfl⟩ := List.mem_iff_getElem.1 hc
                exact HFI.out i hi' hi'
              have hup : Us A2 p := (HS2.out.us p).2 hp
              have hbn : B < A2.n := by have := HBZ.out; omega
              have hp1 : p = 0 → B = 1 := by
                intro hp0
                obtain ⟨h1, h2⟩ := H0.out hp0
                have h3 := HBZ.out
                have h4 := HLE2.out
                omega
              have HMK := Lib.hid (mk_start HI2.out hup hp1 hB1 hbn hfits)
              have hB31 : B ≤ 536870918 := by omega
              have HUP := Lib.hid hup
              clear hfits hup hp1 hv2
              go_wp2_with fail
              refine (setBase_any dp g2 A2 M p B wc HA2.out HI2.out HUP.out hB31).mono ?_
              rintro e w3 ⟨rfl, ha3, hk3⟩
              have HA3 := Lib.hid ha3
              have HK3 := Lib.hid (HK2.out.trans hk3 HG2.out)
              clear ha3 hk3
              go_wp2_with fail
              obtain ⟨M1, hM1⟩ : ∃ M1, M1 = M + 256 := ⟨_, rfl⟩
              have hM1c : M1 ≤ 268435456 := by omega
              have hBM : B + 255 ≤ M1 := by
                have h3 := HBZ.out
                have h4 := HLE2.out
                omega
              have hp31 : p ≤ 536870918 := by have := HUP.out.1; omega
              have HM1 := Lib.hid hM1
              have HMK1 : Hid (Mk A2 (setBase A2 p B) p B [] chars M1) := Lib.hid { HMK.out with inv := HMK.out.inv.mono (by omega) hM1c }
              clear hM1
              go_loopw [86] (fun j wr => ∃ (k : Nat) (A3 : DA) (g3 : Nat), k ≤ chars.length ∧ j = .int .i64 k ∧ Hid (Arr dp g3 A3 wr) ∧ Hid (Mk A2 A3 p B (chars.take k) (chars.drop k) M1) ∧ Hid (g3 = g ∨ w.heap.size ≤ g3) ∧ Hid (Kp dp g w wr)) (fun j _ => chars.length - (intOf j).toNat)
              case atStart => exact ⟨0, _, g2, Nat.zero_le _, rfl, HA3, Lib.hid (by rw [List.take_zero, List.drop_zero]; exact HMK1.out), HG2, HK3⟩
              case round =>
                obtain ⟨k, A3, g3, hk, rfl, HA4, HMK2, HG3, HK4⟩ := hrel
                by_cases hlt : k < chars.length
                · obtain ⟨ch, hch⟩ : ∃ ch, ch = chars[k] := ⟨_, rfl⟩
                  have hcc : wr.cell? ⟨cb, k, none⟩ = some (.int .u8 (ch : Int)) := by
                    rw [hch]
                    exact (HC.out.keep (HK4.out.block cb hcl hcd hcg)) k hlt
                  have h255 : ch ≤ 255 := by rw [hch]; exact HB.out _ (List.getElem_mem _)
                  have hdrop : chars.drop k = ch :: chars.drop (k + 1) := by rw [hch]; exact List.drop_eq_getElem_cons hlt
                  have htake : chars.take (k + 1) = chars.take k ++ [ch] := by rw [hch, List.take_succ_eq_append_getElem hlt]
                  have HM3 : Hid (Mk A2 A3 p B (chars.take k) (ch :: chars.drop (k + 1)) M1) := Lib.hid (by rw [← hdrop]; exact HMK2.out)
                  have HTK := Lib.hid htake
                  have HNI : Hid (ch ∉ chars.drop (k + 1)) := Lib.hid (by
                    have h1 := HS.out.sublist (List.drop_sublist k chars)
                    rw [hdrop] at h1
                    intro hm
                    have := (List.pairwise_cons.1 h1).1 ch hm
                    omega)
                  clear hch hdrop htake
                  obtain ⟨q, hqe⟩ : ∃ q, q = B + ch := ⟨_, rfl⟩
                  have hBb : (B : Int) ≤ 536870918 := by omega
                  have hqz : (B : Int) + (ch : Int) = (q : Int) := by omega
                  have HQE := Lib.hid hqe
                  clear hqe
                  have hsz3 := HM3.out.inv.size
                  have hpn3 : p < A3.n := (HM3.out.op.ext.us p HUP.out).1
                  have hv3 : wr.cell? ⟨dp, 0, none⟩ = some (.slice (some ⟨g3, 0, none⟩) A3.n A3.n) := HA4.out.cv
                  have hb3 : wr.cell? ⟨g3, p * 2, none⟩ = some (.int .i32 (B : Int)) := by rw [← HM3.out.op.base]; exact HA4.out.cb hpn3
                  have HV3 := Lib.hid hv3
                  have HB3 := Lib.hid hb3
                  go_upto_if 106 with fail
                  clear hv3 hb3 hcc
                  go_cut [] (fun wx => ∃ A4 g4, Hid (Arr dp g4 A4 wx) ∧ Hid (Mk A2 A4 p B (chars.take k) (ch :: chars.drop (k + 1)) M1) ∧ Hid (q < A4.n) ∧ Hid (g4 = g ∨ w.heap.size ≤ g4) ∧ Hid (Kp dp g w wx))
                  case first =>
                    by_cases hge : A3.n ≤ q
                    · have hd : decide (A3.n ≤ q) = true := by simpa using hge
                      have hMM : A3.n ≤ M1 + 3 := by have := HQE.out; omega
                      have HMM := Lib.hid hMM
                      clear hMM
                      go_wp2_with fail
                      refine (expand_any dp g3 A3 M1 wr HA4.out HM3.out.inv).mono ?_
                      rintro e w4 ⟨rfl, g4, h2, hg2, hk2⟩
                      have HY1 := Lib.hid h2
                      have HY2 := Lib.hid hg2
                      have HY3 := Lib.hid hk2
                      clear h2 hg2 hk2
                      go_wp2_with fail
                      go_meet
                      refine ⟨grown A3, g4, HY1, Lib.hid (mk_grow HM3.out HMM.out HUP.out), Lib.hid ?_, Lib.hid (.inr (Nat.le_trans HK4.out.size HY2.out)), Lib.hid (HK4.out.trans HY3.out HG3.out)⟩
                      have h1 := HM3.out.lt
                      have h2 := HM3.out.inv.big
                      have h3 := HQE.out
                      show q < 2 * A3.n
                      omega
                    · have hd : decide (A3.n ≤ q) = false := by simpa using hge
                      have HLT : Hid (q < A3.n) := Lib.hid (by omega)
                      go_wp2_with fail
                      go_meet
                      exact ⟨A3, g3, HA4, HM3, HLT, HG3, HK4⟩
                  case rest =>
                    obtain ⟨A4, g4, HA5, HM4, HLT, HG4, HK5⟩ := hcut
                    have hfr : Fr A4 q := by
                      rcases HM4.out.rest ch (List.mem_cons_self ..) with h | h
                      · have := HLT.out; have := HQE.out; omega
                      · rw [HQE.out]; exact h
                    have HFR := Lib.hid hfr
                    clear hfr
                    go_wp2_with fail
                    refine (setCheck_any dp g4 A4 M1 q p wc HA5.out HM4.out.inv HFR.out hp31).mono ?_
                    rintro e w5 ⟨rfl, g5, h2, hg2, hk2⟩
                    have HY1 := Lib.hid h2
                    have HY2 := Lib.hid hg2
                    have HY3 := Lib.hid hk2
                    clear h2 hg2 hk2
                    have HMK5 : Hid (Mk A2 (take (room A4 q) q p) p B (chars.take (k + 1)) (chars.drop (k + 1)) M1) := Lib.hid (by
                      rw [HTK.out]
                      obtain ⟨j1, j2, j3⟩ := room_inv HM4.out.inv HFR.out
                      have hm : Mk A2 (room A4 q) p B (chars.take k) (ch :: chars.drop (k + 1)) M1 := by
                        unfold room
                        split
                        · rename_i he
                          exact mk_grow HM4.out (few_free HM4.out.inv HFR.out he) HUP.out
                        · exact HM4.out
                      have h3 := HQE.out
                      rw [h3] at j2 j3 hm ⊢
                      exact mk_take hm HUP.out (fr_lt j2) j3 HNI.out (by omega) (by have := HUP.out.1; have := HI2.out.us p HUP.out; omega))
                    have HG5 : Hid (g5 = g ∨ w.heap.size ≤ g5) := Lib.hid (by
                      rcases HY2.out with h | h
                      · rw [h]; exact HG4.out
                      · exact .inr (Nat.le_trans HK5.out.size h))
                    go_wp2_with fail
                    exact ⟨⟨k + 1, _, g5, by omega, by go_num, HY1, HMK5, HG5, Lib.hid (HK5.out.trans HY3.out HG4.out)⟩, by simp [intOf]; omega⟩
                · obtain rfl : k = chars.length := by omega
                  have HFIN : Hid (Mk A2 A3 p B chars [] M1) := Lib.hid (by
                    have := HMK2.out
                    rwa [List.take_length, List.drop_length] at this)
                  go_wp2_with fail
                  unfold Exit.jump
                  go_end0
                  exact ⟨rfl, A3, g3, B, HA4.out, by rw [← HM1.out]; exact HFIN.out.inv, HFIN.out.op.same HS2.out, HG3.out, HK4.out⟩
end Go.Proofs.Ytjifoimkjgepcaa.Da
