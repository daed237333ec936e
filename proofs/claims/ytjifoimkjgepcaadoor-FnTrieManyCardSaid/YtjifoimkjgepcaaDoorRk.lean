/-
  The walks of impl.TrieRead where too few bytes are left, and of laws.FnExactTrieRead.
-/
import Derived.Test.YtjifoimkjgepcaaDoorRh
import Derived.Test.YtjifoimkjgepcaaDoorEg
import Derived.MakeChecks
set_option linter.unusedVariables false
set_option linter.unusedSimpArgs false
namespace Go.Proofs.YtjifoimkjgepcaaDoor.Z
open Go.RowKit Go.Proofs.YtjifoimkjgepcaaDoor.K Go.Proofs.YtjifoimkjgepcaaDoorW.PrintWords Go.Proofs.YtjifoimkjgepcaaDoor.Da

theorem u8s_src {w : World} {A : Option Addr} {xs : List Int} (h : (Kd.int .u8).C w A xs.length xs) (h0 : 0 < xs.length) : ∃ ad, A = some ad ∧ Src w ad xs := by
  obtain ⟨hl, hm, hc⟩ := h
  obtain ⟨ad, hA, hcells⟩ := hc (by omega)
  refine ⟨ad, hA, fun i x hx => ?_⟩
  obtain ⟨c, hcl, hk, hcc⟩ := hcells i x hx
  have hk' : c = [Value.int .u8 x] := hk
  subst hk'
  have := hcc 0 _ rfl
  have e : (Kd.int .u8).sz = 1 := rfl
  rw [e, Nat.mul_one, Nat.add_zero] at this
  exact this
theorem Src.lt {w : World} {ad : Addr} {xs : List Int} (h : Src w ad xs) (h0 : 0 < xs.length) : ad.block < w.heap.size := by
  have := World.block_lt_of_cell? w _ (h 0 _ (List.getElem?_eq_getElem h0))
  have hb : (ad.add 0).block = ad.block := by unfold Addr.add; split <;> rfl
  omega
theorem Src.below {w w' : World} {ad : Addr} {xs : List Int} (h : Src w ad xs) (hb : Below w.heap.size w w') : Src w' ad xs := fun j x hx => (hb.cell (World.block_lt_of_cell? w _ (h j x hx))).trans (h j x hx)
theorem newReader_any (A : Option Addr) (L c : Nat) (w : World) : Calls Tryd.prog 28 #[.slice A L c] w fun e w' => e = .returned (.pointer (some ⟨w.heap.size, 0, none⟩)) ∧ w' = w.alloc (.cells #[.slice A L c, .int .i64 0, .int .i64 (-1)] tRd) := by
  go_enter Tryd.func28, Tryd.ntmps28
  go_wp2
  go_ret
  exact ⟨rfl, rfl⟩
/-- What impl.TrieRead answers of bytes that are too few. -/
abbrev noTrie : Value := .tuple #[.slice none 0 0, .int .i64 1]
set_option maxHeartbeats 1000000 in
set_option maxRecDepth 5000 in
theorem implRead_small (A B : Option Addr) (c m d : Nat) (p q : Addr) (xs : List Int) (w : World) (hC : (Kd.int .u8).C w A xs.length xs) (hc : xs.length ≤ c) (hL8 : xs.length < 8) (hE : Errs p q w) :
    Calls Tryd.prog 17 #[.slice A xs.length c, .slice B m d] w fun e w' => e = .returned noTrie ∧ Below w.heap.size w w' := by
  obtain ⟨w1, hw1⟩ : ∃ w1, w1 = w.alloc (.cells #[.slice A xs.length c, .int .i64 0, .int .i64 (-1)] tRd) := ⟨_, rfl⟩
  have hb1 : Below w.heap.size w w1 := hw1 ▸ below_alloc (Below.refl _ w) _
  have hr1 : w1.heap[w.heap.size]? = some (.cells #[.slice A xs.length c, .int .i64 (0 : Nat), .int .i64 (-1)] tRd (0, 0)) := hw1 ▸ heap_alloc_new w _
  have hleft : Left A w.heap.size xs.length 0 w1 := fun h => by
    obtain ⟨ad, rfl, hS⟩ := u8s_src hC h
    exact ((hS.below hb1).left rfl (Nat.ne_of_lt (hS.lt h))) h
  have H0 := Lib.hid (trieRead_small w.heap.size xs.length c A (-1) p q w1 hr1 hL8 hc (by unfold maxLen; omega) hleft (hE.below hb1))
  have HS := Lib.hid (sized_small A xs.length c w hL8)
  have HB := Lib.hid hb1
  have HW1 := Lib.hid hw1
  clear hC hE hw1 hb1 hr1 hleft
  go_enter Tryd.func17, Tryd.ntmps17
  go_wp2_with fail
  refine HS.out.mono ?_
  rintro e w2 ⟨rfl, rfl⟩
  go_wp2_with fail
  refine (newReader_any A xs.length c w2).mono ?_
  rintro e w3 ⟨rfl, hw3⟩
  rw [← HW1.out] at hw3
  subst hw3
  go_wp2_with fail
  refine H0.out.mono ?_
  rintro e w4 ⟨v, t, rfl, hk⟩
  have HB4 := Lib.hid (HB.out.trans ((hk.below (B := w2.heap.size) (fun i _ h => by omega) HB.out.size)))
  clear hk
  go_wp2_with fail
  go_ret2
  exact ⟨rfl, HB4.out⟩
set_option maxHeartbeats 1000000 in
set_option maxRecDepth 5000 in
theorem implRead_few (ad : Addr) (B : Option Addr) (c m d : Nat) (p q : Addr) (xs : List Int) (N : Int) (w : World) (hS : Src w ad xs) (hc : xs.length ≤ c) (hL8 : 8 ≤ xs.length) (hLm : xs.length ≤ 2000) (hbr : ∀ x ∈ xs, 0 ≤ x ∧ x < 256)
    (hN : Num8 xs N) (hfew : ((xs.length : Int) - 8) / 8 < N) (hE : Errs p q w) :
    Calls Tryd.prog 17 #[.slice (some ad) xs.length c, .slice B m d] w fun e w' => e = .returned noTrie ∧ Below w.heap.size w w' := by
  have HS := Lib.hid (sized_any ad xs.length c xs N w hL8 (by omega) hN hS)
  by_cases hNL : N ≤ (xs.length : Int)
  · obtain ⟨n, rfl⟩ : ∃ n : Nat, N = n := ⟨N.toNat, by have := hN.1; omega⟩
    obtain ⟨w1, hw1⟩ : ∃ w1, w1 = w.alloc (.cells #[.slice (some ad) xs.length c, .int .i64 0, .int .i64 (-1)] tRd) := ⟨_, rfl⟩
    have hb1 : Below w.heap.size w w1 := hw1 ▸ below_alloc (Below.refl _ w) _
    have hr1 : w1.heap[w.heap.size]? = some (.cells #[.slice (some ad) xs.length c, .int .i64 (0 : Nat), .int .i64 (-1)] tRd (0, 0)) := hw1 ▸ heap_alloc_new w _
    have H0 := Lib.hid (trieRead_few w.heap.size xs.length c ad (-1) p q xs n w1 hr1 hL8 hLm hc (by unfold maxLen; omega) (Nat.ne_of_lt (hS.lt (by omega))) rfl hbr (hS.below hb1) hN (by omega) (by omega) (hE.below hb1))
    have HB := Lib.hid hb1
    have HW1 := Lib.hid hw1
    have hd : decide ((n : Int) ≤ (xs.length : Int)) = true := decide_eq_true hNL
    rw [hd] at HS
    clear hS hE hw1 hb1 hr1 hN hbr hfew hNL hd
    go_enter Tryd.func17, Tryd.ntmps17
    go_wp2_with fail
    refine HS.out.mono ?_
    rintro e w2 ⟨rfl, rfl⟩
    go_wp2_with fail
    refine (newReader_any (some ad) xs.length c w2).mono ?_
    rintro e w3 ⟨rfl, hw3⟩
    rw [← HW1.out] at hw3
    subst hw3
    go_wp2_with fail
    refine H0.out.mono ?_
    rintro e w4 ⟨v, t, rfl, hk⟩
    have HB4 := Lib.hid (HB.out.trans ((hk.below (B := w2.heap.size) (fun i _ h => by omega) HB.out.size)))
    clear hk
    go_wp2_with fail
    go_ret2
    exact ⟨rfl, HB4.out⟩
  · have hd : decide (N ≤ (xs.length : Int)) = false := decide_eq_false hNL
    rw [hd] at HS
    clear hS hE hN hbr hfew hNL hd
    go_enter Tryd.func17, Tryd.ntmps17
    go_wp2_with fail
    refine HS.out.mono ?_
    rintro e w2 ⟨rfl, rfl⟩
    go_wp2_with fail
    go_ret2
    exact ⟨rfl, Below.refl _ _⟩

set_option maxHeartbeats 2000000 in
set_option maxRecDepth 100000 in
theorem trieRead_walk (A B : Option Addr) (c d : Nat) (xs : List Int) (inputs : List ByteArray) (p q : Addr) (w : World) (hC : (Kd.int .u8).C w A xs.length xs) (hc : xs.length ≤ c) (hwf : ∀ x ∈ xs, (Lit.int .u8 x).wf = true) (hI : Kd.string.C w B inputs.length inputs) (hd : inputs.length ≤ d) (hE : Errs p q w) :
    Calls Tryd.prog 5 #[.slice A xs.length c, .slice B inputs.length d] w fun e w' => e = .returned (.bool true) ∧ Below w.heap.size w w' := by
  have hbr : ∀ x ∈ xs, 0 ≤ x ∧ x < 256 := fun x hx => by
    have hn : 0 ≤ x ∧ x ≤ 255 := by simpa [Lit.wf, IntKind.min, IntKind.max, IntKind.signed, IntKind.bits] using hwf x hx
    omega
  have HC := Lib.hid hC
  have HI := Lib.hid hI
  have HE := Lib.hid hE
  have HBR := Lib.hid hbr
  have HKD := Lib.hid hd
  have HKC := Lib.hid hc
  clear hC hI hE hbr hwf hd hc
  go_enter Tryd.func5, Tryd.ntmps5
  by_cases hbig : 2147483647 < (xs.length : Int)
  · go_wp2_with fail
    go_ret
    exact ⟨rfl, Below.refl _ _⟩
  go_wp2_with fail
  refine (zzFits3_any B d inputs w HI.out).mono ?_
  rintro e w1 ⟨b1, rfl, hb, hw1⟩
  have HF0 := Lib.hid hb
  have HL1 := Lib.hid hw1
  clear hb hw1
  cases b1
  · go_wp2_with fail
    go_ret
    exact ⟨rfl, HL1.out⟩
  have HF := Lib.hid (HF0.out (by trivial))
  by_cases h2000 : 2000 < (xs.length : Int)
  · go_wp2_with fail
    refine (builds_any w1).mono ?_
    rintro e wf ⟨rfl, hwf⟩
    have HLf := Lib.hid (HL1.out.trans (hwf.mono HL1.out.size))
    clear hwf
    go_wp2_with fail
    go_ret
    exact ⟨rfl, HLf.out⟩
  go_wp2_with fail
  refine (few_one B d inputs w1 (Kd.C_below HI.out HL1.out) HKD.out HF.out).mono ?_
  rintro e w2 ⟨b2, rfl, hb, hw⟩
  have HL2 := Lib.hid (HL1.out.trans (hw.mono HL1.out.size))
  clear hb hw
  cases b2
  · go_wp2_with fail
    refine (builds_any w2).mono ?_
    rintro e wf ⟨rfl, hwf⟩
    have HLf := Lib.hid (HL2.out.trans (hwf.mono HL2.out.size))
    clear hwf
    go_wp2_with fail
    go_ret
    exact ⟨rfl, HLf.out⟩
  by_cases h8 : xs.length < 8
  · have HI2 := Lib.hid (implRead_small A B c inputs.length d p q xs w2 (Kd.C_below HC.out HL2.out) HKC.out h8 (HE.out.below HL2.out))
    go_wp2_with fail
    refine (specRead_small A B xs.length c inputs.length d w2 h8).mono ?_
    rintro e w3 ⟨rfl, rfl⟩
    go_wp2_with fail
    refine HI2.out.mono ?_
    rintro e w4 ⟨rfl, hb⟩
    have HL4 := Lib.hid (HL2.out.trans (hb.mono HL2.out.size))
    clear hb HI2
    go_wp2_with fail
    refine (builds_any w4).mono ?_
    rintro e wf ⟨rfl, hwf⟩
    have HLf := Lib.hid (HL4.out.trans (hwf.mono HL4.out.size))
    clear hwf
    go_wp2_with fail
    go_ret
    exact ⟨rfl, HLf.out⟩
  have h8' : 8 ≤ xs.length := by omega
  obtain ⟨N, hN⟩ := num8_of xs h8' HBR.out
  obtain ⟨ad, rfl, hS⟩ := u8s_src (Kd.C_below HC.out HL2.out) (by omega)
  have HSP := Lib.hid (specRead_any ad B xs.length c inputs.length d xs N w2 h8' (by omega) HKC.out hN hS)
  have HIM := Lib.hid (fun h => implRead_few ad B c inputs.length d p q xs N w2 hS HKC.out h8' (by omega) HBR.out hN h (HE.out.below HL2.out))
  clear hN hS
  go_wp2_with fail
  refine HSP.out.mono ?_
  rintro e w3 ⟨⟨b, rfl, hP⟩, rfl⟩
  have HP := Lib.hid hP
  clear hP HSP
  cases b
  · go_wp2_with fail
    refine (builds_any w3).mono ?_
    rintro e wf ⟨rfl, hwf⟩
    have HLf := Lib.hid (HL2.out.trans (hwf.mono HL2.out.size))
    clear hwf
    go_wp2_with fail
    go_ret
    exact ⟨rfl, HLf.out⟩
  have HI2 := Lib.hid (HIM.out (HP.out rfl))
  go_wp2_with fail
  refine HI2.out.mono ?_
  rintro e w4 ⟨rfl, hb⟩
  have HL4 := Lib.hid (HL2.out.trans (hb.mono HL2.out.size))
  clear hb HI2
  go_wp2_with fail
  refine (builds_any w4).mono ?_
  rintro e wf ⟨rfl, hwf⟩
  have HLf := Lib.hid (HL4.out.trans (hwf.mono HL4.out.size))
  clear hwf
  go_wp2_with fail
  go_ret
  exact ⟨rfl, HLf.out⟩
theorem star_err : "*" ++ "errors.errorString" = "*errors.errorString" := by decide
theorem row_err (u : TypeId) (h : Tryd.prog.typeName? 3 u = some "*errors.errorString") : u = tEs :=
  typeName_ptr_named (nm := "errors.errorString") (by rw [star_err]; kernel_rfl) (by kernel_rfl) (by decide) u (by rw [star_err]; exact h)
set_option maxRecDepth 5000 in
theorem errs_laid {W : World} (h : laidMetH Tryd.prog Rows.fnExactTrieReadRow.laid W) : ∃ p q, Errs p q W := by
  rw [MakeChecks.laidMetH_plain _ _ _ (by kernel_rfl)] at h
  obtain ⟨ms, hms⟩ : ∃ ms, Tryd.prog.underlying 59 = some (.interface ms) := ⟨_, rfl⟩
  obtain ⟨f, hf, hft, hfo⟩ : ∃ f, Tryd.prog.underlying 130 = some (.struct #[f]) ∧ f.type = 9 ∧ f.offset = 0 := ⟨_, rfl, rfl, rfl⟩
  have h1 := laidMet.tail h
  have h2 := laidMet.tail h1
  obtain ⟨p, s, hp, -⟩ := laid_sentinel (g := gE) (ti := 59) (tp := tEs) (te := 130) (ts := 9) h1 (by kernel_rfl) (by kernel_rfl) hms row_err (by kernel_rfl) hf hft hfo (by kernel_rfl) (by kernel_rfl) (by kernel_rfl)
  obtain ⟨q, s', hq, -⟩ := laid_sentinel (g := gU) (ti := 59) (tp := tEs) (te := 130) (ts := 9) h2 (by kernel_rfl) (by kernel_rfl) hms row_err (by kernel_rfl) hf hft hfo (by kernel_rfl) (by kernel_rfl) (by kernel_rfl)
  exact ⟨p, q, (World.var?_cell (by kernel_rfl) hp 0).trans rfl, (World.var?_cell (by kernel_rfl) hq 0).trans rfl⟩
end Go.Proofs.YtjifoimkjgepcaaDoor.Z
