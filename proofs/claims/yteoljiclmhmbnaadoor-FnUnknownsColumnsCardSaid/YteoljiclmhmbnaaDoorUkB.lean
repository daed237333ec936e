/-
  slices.SortStableFunc at pub-kaeriten/pub/kagomedict/dict/builder.Record: what the walks ask of a program's types; the walks of swapRangeCmpFunc and rotateCmpFunc (printed by gen_stab.py).
-/
import Derived.Test.YteoljiclmhmbnaaDoorUkA
import Derived.Test.YteoljiclmhmbnaaDoorRows
import Derived.Shelf.SlSortCmp.Kit1
import Derived.Shelf.SlLaysF
import Derived.Sort.WalkB2
import Derived.Sort.WalkB12
import Derived.Deep.LoopGhost
import Derived.Shelf.SlSortCmp.Insertion1
import Derived.Deep.DeepCutAuto
import Derived.Deep.CutBlock
import Derived.Test.YteoljiclmhmbnaaDoorProg
import Derived.Test.YteoljiclmhmbnaaDoorShelf
import Derived.Outline
import Derived.Deep.QuietTactic
import Derived.BigQuiet
import Derived.OrdersHeld
import Derived.Deep.RegionHeld
import Derived.KernelRfl
import Derived.StringKeys
set_option linter.unusedVariables false
set_option linter.unusedSimpArgs false
namespace Go.Proofs.YteoljiclmhmbnaaDoor.Sb1
open Go.Shelf Go.RowKit Go.Lib Go.Sort Go.Proofs Go.Proofs.YteoljiclmhmbnaaDoor.St

/-- A program that bears the sort's bodies, at an element of k cells. -/
structure Lays (P : Program) : Prop where
  mixed : P.follows .mixedOrders = true
  t0 : P.underlying 0 = some (TypeDesc.tuple #[])
  a0 : ∀ w, (isAgg 0).run P w = .ok false w
  z0 : ∀ w, (Go.sizeOf 0).run P w = .ok 1 w
  v0 : ∀ w, (zeroValue 0).run P w = .ok (Value.tuple #[]) w
  tI : P.underlying 3 = some (TypeDesc.int IntKind.i64)
  aI : ∀ w, (isAgg 3).run P w = .ok false w
  zI : ∀ w, (Go.sizeOf 3).run P w = .ok 1 w
  vI : ∀ w, (zeroValue 3).run P w = .ok (Value.int IntKind.i64 0) w
  tB : P.underlying 4 = some (TypeDesc.bool)
  aB : ∀ w, (isAgg 4).run P w = .ok false w
  zB : ∀ w, (Go.sizeOf 4).run P w = .ok 1 w
  vB : ∀ w, (zeroValue 4).run P w = .ok (Value.bool false) w
  tS : P.underlying 135 = some (TypeDesc.slice 200)
  aS : ∀ w, (isAgg 135).run P w = .ok false w
  zS : ∀ w, (Go.sizeOf 135).run P w = .ok 1 w
  vS : ∀ w, (zeroValue 135).run P w = .ok (Value.slice none 0 0) w
  tF : P.underlying 201 = some (TypeDesc.func #[200, 200] #[3] false)
  aF : ∀ w, (isAgg 201).run P w = .ok false w
  zF : ∀ w, (Go.sizeOf 201).run P w = .ok 1 w
  vF : ∀ w, (zeroValue 201).run P w = .ok (Value.nilFunc) w
  tU : P.underlying 230 = some (TypeDesc.int IntKind.u64)
  aU : ∀ w, (isAgg 230).run P w = .ok false w
  zU : ∀ w, (Go.sizeOf 230).run P w = .ok 1 w
  vU : ∀ w, (zeroValue 230).run P w = .ok (Value.int IntKind.u64 0) w
  aE : ∀ w, (isAgg 200).run P w = .ok false w
  zE : ∀ w, (Go.sizeOf 200).run P w = .ok 1 w
  fs : P.funcs[171]? = some Tryd.f171
  fr : P.funcs[164]? = some Tryd.f164
  fm : P.funcs[144]? = some Tryd.f144
  fi : P.funcs[143]? = some Tryd.f143
  ft : P.funcs[122]? = some Tryd.f122

theorem lays : Lays Tryd.prog where
  mixed := by kernel_rfl
  t0 := Tryd.underlying0
  a0 := Tryd.isAgg0
  z0 := Tryd.sizeOf0
  v0 := Tryd.zeroValue0
  tI := Tryd.underlying3
  aI := Tryd.isAgg3
  zI := Tryd.sizeOf3
  vI := Tryd.zeroValue3
  tB := Tryd.underlying4
  aB := Tryd.isAgg4
  zB := Tryd.sizeOf4
  vB := Tryd.zeroValue4
  tS := Tryd.underlying135
  aS := Tryd.isAgg135
  zS := Tryd.sizeOf135
  vS := Tryd.zeroValue135
  tF := Tryd.underlying201
  aF := Tryd.isAgg201
  zF := Tryd.sizeOf201
  vF := Tryd.zeroValue201
  tU := Tryd.underlying230
  aU := Tryd.isAgg230
  zU := Tryd.sizeOf230
  vU := Tryd.zeroValue230
  aE := Tryd.isAgg200
  zE := Tryd.sizeOf200
  fs := Tryd.func171
  fr := Tryd.func164
  fm := Tryd.func144
  fi := Tryd.func143
  ft := Tryd.func122

variable {P : Program}
theorem es (L : Lays P) : Enters P 171 := Bears.enters (B := Tryd.f171) ⟨_, by decide, L.fs⟩ rfl
theorem er (L : Lays P) : Enters P 164 := Bears.enters (B := Tryd.f164) ⟨_, by decide, L.fr⟩ rfl
theorem em (L : Lays P) : Enters P 144 := Bears.enters (B := Tryd.f144) ⟨_, by decide, L.fm⟩ rfl
theorem ei (L : Lays P) : Enters P 143 := Bears.enters (B := Tryd.f143) ⟨_, by decide, L.fi⟩ rfl
theorem et (L : Lays P) : Enters P 122 := Bears.enters (B := Tryd.f122) ⟨_, by decide, L.ft⟩ rfl

set_option maxHeartbeats 4000000 in
set_option maxRecDepth 100000 in
theorem swapRange_any (L : Lays P) (enc : Nat → Value) (blk off cap a b n : Nat) (d0 d : Array Nat) (w0 w : World) (fv : Value)
    (R : Row1 enc w0 blk off d0) (N : Nat) (h0 : d0.size = N) (hs : d.size = N) (S : SW enc w0 blk off d w) (hab : a + n ≤ b) (hb : b + n ≤ N) (hsz : N < 4611686018427387904) :
    Calls P 171 #[.slice (some ⟨blk, off, none⟩) N cap, .int .i64 a, .int .i64 b, .int .i64 n, fv] w fun e w' =>
      e = .returned (.tuple #[]) ∧ ∃ d', SW enc w0 blk off d' w' ∧ SwOf a b n d d' ∧ ∀ lo hi, lo ≤ a → b + n ≤ hi → hi ≤ N → PermIn lo hi d d' := by
  have mixed := L.mixed; have t0 := L.t0; have a0 := L.a0; have z0 := L.z0; have v0 := L.v0; have tI := L.tI; have aI := L.aI; have zI := L.zI; have vI := L.vI; have tB := L.tB; have aB := L.aB; have zB := L.zB; have vB := L.vB; have tS := L.tS; have aS := L.aS; have zS := L.zS; have vS := L.vS; have tF := L.tF; have aF := L.aF; have zF := L.zF; have vF := L.vF; have tU := L.tU; have aU := L.aU; have zU := L.zU; have vU := L.vU; have aE := L.aE; have zE := L.zE
  have hcl0 := R.hO.cells
  simp only [Value.cells] at hcl0
  have hst := R.hO.store P
  have S0 : Aside (SW enc w0 blk off d w) := S
  clear S
  go_enter L.fs, Tryd.ntmps171
  go_wp2
  go_loopg [10] n (fun kx s8 wr => ∃ (i : Nat) (dk : Array Nat), s8 = .int .i64 i ∧ i ≤ n ∧ n - i ≤ kx ∧
    dk.size = N ∧ Aside (SW enc w0 blk off dk wr) ∧ Hid (SwOf a b i d dk) ∧ Hid (∀ lo hi, lo ≤ a → b + n ≤ hi → hi ≤ N → PermIn lo hi d dk))
  case atStart => exact ⟨0, d, rfl, by omega, by omega, hs, S0, sw_zero _ _ _, fun _ _ _ _ _ => permIn_refl _ _ _⟩
  case round =>
    clear S0
    obtain ⟨i, dk, rfl, hin, hkx, hds, S1, HS, HP⟩ := hrel
    by_cases hlt : i < n
    · have hltz : (i : Int) < (n : Int) := by omega
      have ea44 : ((a : Int) + (i : Int)).toNat = a + i := by omega
      have pa44 : (0 : Int) ≤ (a : Int) + (i : Int) := by omega
      have ba44 : (a : Int) + (i : Int) < (N : Int) := by omega
      have ra44 : IntKind.i64.wrap ((a : Int) + (i : Int)) = (a : Int) + (i : Int) := by rw [IntKind.wrap_i64]; omega
      have ec44 : ((b : Int) + (i : Int)).toNat = b + i := by omega
      have pc44 : (0 : Int) ≤ (b : Int) + (i : Int) := by omega
      have bc44 : (b : Int) + (i : Int) < (N : Int) := by omega
      have rc44 : IntKind.i64.wrap ((b : Int) + (i : Int)) = (b : Int) + (i : Int) := by rw [IntKind.wrap_i64]; omega
      obtain ⟨iN44, hiN44⟩ : ∃ q, q = a + i := ⟨_, rfl⟩
      rw [← hiN44] at ea44
      obtain ⟨jN44, hjN44⟩ : ∃ q, q = b + i := ⟨_, rfl⟩
      rw [← hjN44] at ec44
      obtain ⟨x44, hx44⟩ : ∃ x, x = dk[a + i]! := ⟨_, rfl⟩
      obtain ⟨y44, hy44⟩ : ∃ x, x = dk[b + i]! := ⟨_, rfl⟩
      have S2 : Aside (SW enc w0 blk off (swp dk (a + i) (b + i)) ((wr.setCell ⟨blk, off + iN44, none⟩ (enc y44)).setCell ⟨blk, off + jN44, none⟩ (enc x44)).drew) := by rw [hiN44, hjN44, hx44, hy44]; exact S1.out.swapped R (a + i) (b + i) (by omega) (by omega)
      have c44a := S1.out.c1 R (by omega) (a + i) (by omega)
      have c44b := S1.out.c1 R (by omega) (b + i) (by omega)
      have f44a := S1.out.f1 R (by omega) (a + i) (by omega)
      have f44b := S1.out.f1 R (by omega) (b + i) (by omega)
      obtain ⟨u44, c44c⟩ := S1.out.c2 R (by omega) (a + i) (b + i) (by omega) (by omega) (enc y44)
      rw [← hjN44, ← hiN44] at c44c
      rw [← hx44, ← hiN44] at c44a
      rw [← hy44, ← hjN44] at c44b
      rw [← hiN44] at f44a
      rw [← hjN44] at f44b
      clear S1 hx44 hy44 hiN44 hjN44
      go_wp2_with fail
      go_big_region_o
      clear c44a c44b c44c f44a f44b
      generalize ((wr.setCell ⟨blk, off + iN44, none⟩ (enc y44)).setCell ⟨blk, off + jN44, none⟩ (enc x44)).drew = w2 at S2 ⊢
      go_wp2
      go_roundg (n - (i + 1))
      case measure => omega
      case rel =>
        exact ⟨i + 1, swp dk (a + i) (b + i), by go_num, by omega, by omega, by rw [size_swp]; exact hds, S2, sw_step HS.out (by omega) (by omega), fun lo hi h1 h2 h3 => permIn_trans _ _ _ _ _ (HP.out lo hi h1 h2 h3) (swp_permIn _ _ _ _ _ (by omega) (by omega) (by omega) (by omega) (by omega))⟩
    · have hltz : ¬ (i : Int) < (n : Int) := by omega
      go_wp2
      go_end0
      obtain rfl : i = n := by omega
      exact ⟨rfl, dk, S1.out, HS.out, HP.out⟩

set_option maxHeartbeats 4000000 in
set_option maxRecDepth 100000 in
theorem rotate_any (L : Lays P) (enc : Nat → Value) (blk off cap a m b : Nat) (d0 d : Array Nat) (w0 w : World) (fv : Value)
    (R : Row1 enc w0 blk off d0) (N : Nat) (h0 : d0.size = N) (hs : d.size = N) (S : SW enc w0 blk off d w) (ham : a < m) (hmb : m < b) (hb : b ≤ N) (hsz : N < 4611686018427387904) :
    Calls P 164 #[.slice (some ⟨blk, off, none⟩) N cap, .int .i64 a, .int .i64 m, .int .i64 b, fv] w fun e w' =>
      e = .returned (.tuple #[]) ∧ ∃ d', SW enc w0 blk off d' w' ∧ RotOf a m b d d' ∧ PermIn a b d d' := by
  have mixed := L.mixed; have t0 := L.t0; have a0 := L.a0; have z0 := L.z0; have v0 := L.v0; have tI := L.tI; have aI := L.aI; have zI := L.zI; have vI := L.vI; have tB := L.tB; have aB := L.aB; have zB := L.zB; have vB := L.vB; have tS := L.tS; have aS := L.aS; have zS := L.zS; have vS := L.vS; have tF := L.tF; have aF := L.aF; have zF := L.zF; have vF := L.vF; have tU := L.tU; have aU := L.aU; have zU := L.zU; have vU := L.vU; have aE := L.aE; have zE := L.zE
  have hcl0 := R.hO.cells
  simp only [Value.cells] at hcl0
  have hst := R.hO.store P
  have S0 : Aside (SW enc w0 blk off d w) := S
  clear S
  have eS : ∀ args w, (callFunc 171 args).run P w = .ok (.enter 171 args) w := es L
  go_enter L.fr, Tryd.ntmps164
  go_wp2
  go_loopg [10, 11] (b - a) (fun kx s8 s9 wr => ∃ (i j : Nat) (dk : Array Nat), s8 = .int .i64 i ∧ s9 = .int .i64 j ∧ 0 < i ∧ 0 < j ∧ i ≤ m - a ∧ j ≤ b - m ∧ i + j ≤ kx + 1 ∧
    dk.size = N ∧ Aside (SW enc w0 blk off dk wr) ∧ Hid (Lf a m b i j d dk) ∧ Hid (PermIn a b d dk))
  case atStart => exact ⟨m - a, b - m, d, by go_num, by go_num, by omega, by omega, by omega, by omega, by omega, hs, S0, left_start (by omega) (by omega), permIn_refl _ _ _⟩
  case round =>
    clear S0
    obtain ⟨i, j, dk, rfl, rfl, hi0, hj0, him, hjm, hkx, hds, S1, HL, HP⟩ := hrel
    have q1 : (m : Int) - (i : Int) = ((m - i : Nat) : Int) := by omega
    have q2 : (m : Int) + (j : Int) - (i : Int) = ((m + j - i : Nat) : Int) := by omega
    have hrn : ((b - a : Nat) : Int) ≤ 4611686018427387904 := by omega
    by_cases hne : i = j
    · subst hne
      have ht : ((i : Int) != (i : Int)) = false := by simp
      go_wp2_with fail
      refine (swapRange_any L enc blk off cap (m - i) m i d0 dk w0 wr fv R N h0 hds S1.out (by omega) (by omega) hsz).mono ?_
      rintro e w' ⟨rfl, d', S', hsw, hpm⟩
      go_wp2
      go_end0
      exact ⟨rfl, d', S', left_eq HL.out (by omega) hsw, permIn_trans _ _ _ _ _ HP.out (hpm a b (by omega) (by omega) (by omega))⟩
    · have ht : ((i : Int) != (j : Int)) = true := by rw [bne_iff_ne]; omega
      by_cases hgt : j < i
      · have hg : (j : Int) < (i : Int) := by omega
        go_wp2_with fail
        refine (swapRange_any L enc blk off cap (m - i) m j d0 dk w0 wr fv R N h0 hds S1.out (by omega) (by omega) hsz).mono ?_
        rintro e w' ⟨rfl, d', S', hsw, hpm⟩
        go_wp2
        go_roundg (i - j + j - 1)
        case measure => omega
        case rel =>
          exact ⟨i - j, j, d', by go_num, rfl, by omega, hj0, by omega, hjm, by omega, by rw [hsw.1]; exact hds, S', left_gt HL.out hgt (by omega) hsw, permIn_trans _ _ _ _ _ HP.out (hpm a b (by omega) (by omega) (by omega))⟩
      · have hg : ¬ (j : Int) < (i : Int) := by omega
        go_wp2_with fail
        refine (swapRange_any L enc blk off cap (m - i) (m + j - i) i d0 dk w0 wr fv R N h0 hds S1.out (by omega) (by omega) hsz).mono ?_
        rintro e w' ⟨rfl, d', S', hsw, hpm⟩
        go_wp2
        go_roundg (i + (j - i) - 1)
        case measure => omega
        case rel =>
          exact ⟨i, j - i, d', rfl, by go_num, hi0, by omega, him, by omega, by omega, by rw [hsw.1]; exact hds, S', left_lt HL.out (by omega) (by omega) hsw, permIn_trans _ _ _ _ _ HP.out (hpm a b (by omega) (by omega) (by omega))⟩
end Go.Proofs.YteoljiclmhmbnaaDoor.Sb1

/-
  slices.SortStableFunc at pub-kaeriten/pub/kagomedict/dict/builder.Record: the walk of symMergeCmpFunc (printed by gen_stab.py).
-/
set_option linter.unusedVariables false
set_option linter.unusedSimpArgs false
namespace Go.Proofs.YteoljiclmhmbnaaDoor.Sb1
open Go.Shelf Go.RowKit Go.Lib Go.Sort Go.Proofs Go.Proofs.YteoljiclmhmbnaaDoor.St

variable {P : Program}

set_option maxHeartbeats 8000000 in
set_option maxRecDepth 100000 in
theorem symM1 (L : Lays P) (enc : Nat → Value) (cf : Nat → Nat → Int) (g : Nat) (cb : Array Value) (hO : SWO (ltOf cf)) (blk off cap : Nat) (d0 : Array Nat) (w0 : World)
    (eg : ∀ args w, (callFunc g args).run P w = .ok (.enter g args) w) (hcmp : CmpLays1 P g cb enc cf blk off d0.size w0) (R : Row1 enc w0 blk off d0) (N : Nat) (h0 : d0.size = N) (hsz : N < 4611686018427387904)
    (a m b : Nat) (d : Array Nat) (w : World) (hs : d.size = N) (S0 : SW enc w0 blk off d w) (hb : b ≤ N) (HM0 : Mp (ltOf cf) a m b d) (hm1 : m = a + 1) :
    Calls P 144 #[.slice (some ⟨blk, off, none⟩) N cap, .int .i64 a, .int .i64 m, .int .i64 b, .func (.func g) #[] cb] w fun e w' =>
      e = .returned (.tuple #[]) ∧ ∃ d', SW enc w0 blk off d' w' ∧ Post (ltOf cf) a b d d' := by
  have mixed := L.mixed; have t0 := L.t0; have a0 := L.a0; have z0 := L.z0; have v0 := L.v0; have tI := L.tI; have aI := L.aI; have zI := L.zI; have vI := L.vI; have tB := L.tB; have aB := L.aB; have zB := L.zB; have vB := L.vB; have tS := L.tS; have aS := L.aS; have zS := L.zS; have vS := L.vS; have tF := L.tF; have aF := L.aF; have zF := L.zF; have vF := L.vF; have tU := L.tU; have aU := L.aU; have zU := L.zU; have vU := L.vU; have aE := L.aE; have zE := L.zE
  have hcl0 := R.hO.cells
  simp only [Value.cells] at hcl0
  have hst := R.hO.store P
  have eM : ∀ args w, (callFunc 144 args).run P w = .ok (.enter 144 args) w := em L
  have eR : ∀ args w, (callFunc 164 args).run P w = .ok (.enter 164 args) w := er L
  have HC : Aside _ := hcmp
  clear hcmp
  have ham := HM0.am
  have hmb := HM0.mb
  have S1 : Aside (SW enc w0 blk off d w) := S0
  have HM : Hid (Mp (ltOf cf) a m b d) := HM0
  clear S0 HM0
  subst hm1
  have ht : (((a + 1 : Nat) : Int) - (a : Int) == 1) = true := by rw [beq_iff_eq]; omega
  have ht' : ((a : Int) + 1 - (a : Int) == 1) = true := by rw [beq_iff_eq]; omega
  go_enter L.fm, Tryd.ntmps144
  go_wp2
  go_loopg [10, 11] (b - a) (fun kx si sj wr => ∃ (i j : Nat), si = .int .i64 i ∧ sj = .int .i64 j ∧ a + 1 ≤ i ∧ i ≤ j ∧ j ≤ b ∧ j - i ≤ kx ∧ Aside (SW enc w0 blk off d wr) ∧
    Hid (∀ x, a + 1 ≤ x → x < i → ltOf cf d[x]! d[a]! = true) ∧ Hid (∀ x, j ≤ x → x < b → ltOf cf d[x]! d[a]! = false))
  case atStart => exact ⟨a + 1, b, by go_num, rfl, Nat.le_refl _, by omega, Nat.le_refl _, by omega, S1, fun x h1 h2 => by omega, fun x h1 h2 => by omega⟩
  case round =>
    clear S1
    obtain ⟨i, j, rfl, rfl, hai, hij, hjb, hkx, S1, H1, H2⟩ := hrel
    by_cases hlt : i < j
    · have hltz : (i : Int) < (j : Int) := by omega
      obtain ⟨h, hh⟩ : ∃ h, h = (i + j) / 2 := ⟨_, rfl⟩
      have hih : i ≤ h := by omega
      have hhj : h < j := by omega
      have hz : ((i : Int) + (j : Int)) / 2 = (h : Int) := by omega
      have bh : (h : Int) < (N : Int) := by omega
      have ba : (a : Int) < (N : Int) := by omega
      clear hh
      obtain ⟨x1, hx1⟩ : ∃ x, x = d[h]! := ⟨_, rfl⟩
      obtain ⟨y1, hy1⟩ : ∃ x, x = d[a]! := ⟨_, rfl⟩
      have l1a := S1.out.cl R (by omega) (h) (by omega)
      have l1b := S1.out.cl R (by omega) (a) (by omega)
      rw [← hx1] at l1a
      rw [← hy1] at l1b
      have hc1 := S1.out.cmp HC.out (by omega) x1 y1
      obtain ⟨bv, hd1⟩ : ∃ bv, decide (cf x1 y1 < 0) = bv := ⟨_, rfl⟩
      have HV : Hid (ltOf cf d[h]! d[a]! = bv) := by rw [← hx1, ← hy1]; exact hd1
      clear hx1 hy1
      go_wp2_with fail
      go_quiet_grown (first | (go_at_fn g; refine Calls.grown_of (hc1 _ _)))
      have S2 : Aside (SW enc w0 blk off d (grow (wr.drewN nq) osq)) := S1.out.grown nq osq
      clear l1a l1b hc1 hd1 S1
      generalize grow (wr.drewN nq) osq = w2 at S2 ⊢
      clear nq osq
      cases bv with
      | true =>
        go_wp2
        go_roundg (j - (h + 1))
        case measure => omega
        case rel => exact ⟨h + 1, j, by go_num, rfl, by omega, by omega, hjb, by omega, S2, fun x h1 h2 => HM.out.mono hO (Nat.le_refl a) (Nat.le_refl a) (by omega) h1 (show x ≤ h by omega) (by omega) HV.out, H2.out⟩
      | false =>
        go_wp2
        go_roundg (h - i)
        case measure => omega
        case rel => exact ⟨i, h, rfl, rfl, hai, by omega, by omega, by omega, S2, H1.out, fun x h1 h2 => HM.out.mono' hO (Nat.le_refl a) (Nat.le_refl a) (by omega) (by omega) h1 h2 HV.out⟩
    · have hltz : ¬ (i : Int) < (j : Int) := by omega
      obtain rfl : i = j := by omega
      clear hlt hij
      go_wp2
      go_loopg [13] (i - a) (fun kx sk wr2 => ∃ (kk : Nat) (dk : Array Nat), sk = .int .i64 kk ∧ a ≤ kk ∧ kk + 1 ≤ i ∧ i - 1 - kk ≤ kx ∧ dk.size = N ∧ Aside (SW enc w0 blk off dk wr2) ∧ Hid (RotOf a (a + 1) (kk + 1) d dk) ∧ Hid (PermIn a b d dk))
      case atStart => exact ⟨a, d, rfl, Nat.le_refl _, hai, by omega, hs, S1, rot_nil_right a (a + 1) d, permIn_refl _ _ _⟩
      case round =>
        clear S1
        obtain ⟨kk, dk, rfl, hk1, hk2, hkx2, hds, S1, HR, HP⟩ := hrel
        by_cases hlt2 : kk + 1 < i
        · have z : (kk : Int) < (i : Int) - 1 := by omega
          have ea1 : ((kk : Int) + 1).toNat = kk + 1 := by omega
          have pa1 : (0 : Int) ≤ (kk : Int) + 1 := by omega
          have ba1 : (kk : Int) + 1 < (N : Int) := by omega
          have bk1 : (kk : Int) < (N : Int) := by omega
          have ra1 : IntKind.i64.wrap ((kk : Int) + 1) = (kk : Int) + 1 := by rw [IntKind.wrap_i64]; omega
          have hdl : d.size = N := hs
          obtain ⟨jN44, hjN44⟩ : ∃ q, q = kk + 1 := ⟨_, rfl⟩
          rw [← hjN44] at ea1
          obtain ⟨x44, hx44⟩ : ∃ x, x = dk[kk]! := ⟨_, rfl⟩
          obtain ⟨y44, hy44⟩ : ∃ x, x = dk[kk + 1]! := ⟨_, rfl⟩
          have S2 : Aside (SW enc w0 blk off (swp dk (kk) (kk + 1)) ((wr.setCell ⟨blk, off + kk, none⟩ (enc y44)).setCell ⟨blk, off + jN44, none⟩ (enc x44)).drew) := by rw [hjN44, hx44, hy44]; exact S1.out.swapped R (kk) (kk + 1) (by omega) (by omega)
          have c44a := S1.out.c1 R (by omega) (kk) (by omega)
          have c44b := S1.out.c1 R (by omega) (kk + 1) (by omega)
          have f44a := S1.out.f1 R (by omega) (kk) (by omega)
          have f44b := S1.out.f1 R (by omega) (kk + 1) (by omega)
          obtain ⟨u44, c44c⟩ := S1.out.c2 R (by omega) (kk) (kk + 1) (by omega) (by omega) (enc y44)
          rw [← hjN44] at c44c
          rw [← hx44] at c44a
          rw [← hy44, ← hjN44] at c44b
          rw [← hjN44] at f44b
          clear S1 hx44 hy44 hjN44
          go_wp2_with fail
          go_big_region_o
          clear c44a c44b c44c f44a f44b
          generalize ((wr.setCell ⟨blk, off + kk, none⟩ (enc y44)).setCell ⟨blk, off + jN44, none⟩ (enc x44)).drew = w2 at S2 ⊢
          go_wp2
          go_roundg (i - 1 - (kk + 1))
          case measure => omega
          case rel => exact ⟨kk + 1, swp dk kk (kk + 1), by go_num, by omega, by omega, by omega, by rw [size_swp]; exact hds, S2, rot_step_right HR.out hk1 (by omega), permIn_trans _ _ _ _ _ HP.out (swp_permIn _ _ _ _ _ (by omega) (by omega) (by omega) (by omega) (by omega))⟩
        · have z : ¬ (kk : Int) < (i : Int) - 1 := by omega
          obtain rfl : kk + 1 = i := by omega
          go_wp2
          (try simp only [Exit.inBlock, Exit.then]); refine bodyPost_ret (results_none rfl _ _ _) rfl ?_
          exact ⟨rfl, dk, S1.out, HP.out, one_left hO HM.out hai hjb H1.out H2.out HR.out⟩

set_option maxHeartbeats 8000000 in
set_option maxRecDepth 100000 in
theorem symM2 (L : Lays P) (enc : Nat → Value) (cf : Nat → Nat → Int) (g : Nat) (cb : Array Value) (hO : SWO (ltOf cf)) (blk off cap : Nat) (d0 : Array Nat) (w0 : World)
    (eg : ∀ args w, (callFunc g args).run P w = .ok (.enter g args) w) (hcmp : CmpLays1 P g cb enc cf blk off d0.size w0) (R : Row1 enc w0 blk off d0) (N : Nat) (h0 : d0.size = N) (hsz : N < 4611686018427387904)
    (a m b : Nat) (d : Array Nat) (w : World) (hs : d.size = N) (S0 : SW enc w0 blk off d w) (hb : b ≤ N) (HM0 : Mp (ltOf cf) a m b d) (hm1 : ¬ m = a + 1) (hb1 : b = m + 1) :
    Calls P 144 #[.slice (some ⟨blk, off, none⟩) N cap, .int .i64 a, .int .i64 m, .int .i64 b, .func (.func g) #[] cb] w fun e w' =>
      e = .returned (.tuple #[]) ∧ ∃ d', SW enc w0 blk off d' w' ∧ Post (ltOf cf) a b d d' := by
  have mixed := L.mixed; have t0 := L.t0; have a0 := L.a0; have z0 := L.z0; have v0 := L.v0; have tI := L.tI; have aI := L.aI; have zI := L.zI; have vI := L.vI; have tB := L.tB; have aB := L.aB; have zB := L.zB; have vB := L.vB; have tS := L.tS; have aS := L.aS; have zS := L.zS; have vS := L.vS; have tF := L.tF; have aF := L.aF; have zF := L.zF; have vF := L.vF; have tU := L.tU; have aU := L.aU; have zU := L.zU; have vU := L.vU; have aE := L.aE; have zE := L.zE
  have hcl0 := R.hO.cells
  simp only [Value.cells] at hcl0
  have hst := R.hO.store P
  have eM : ∀ args w, (callFunc 144 args).run P w = .ok (.enter 144 args) w := em L
  have eR : ∀ args w, (callFunc 164 args).run P w = .ok (.enter 164 args) w := er L
  have HC : Aside _ := hcmp
  clear hcmp
  have ham := HM0.am
  have hmb := HM0.mb
  have S1 : Aside (SW enc w0 blk off d w) := S0
  have HM : Hid (Mp (ltOf cf) a m b d) := HM0
  clear S0 HM0
  subst hb1
  have hta : ((m : Int) - (a : Int) == 1) = false := by rw [beq_eq_false_iff_ne]; omega
  have ht : (((m + 1 : Nat) : Int) - (m : Int) == 1) = true := by rw [beq_iff_eq]; omega
  have ht' : ((m : Int) + 1 - (m : Int) == 1) = true := by rw [beq_iff_eq]; omega
  go_enter L.fm, Tryd.ntmps144
  go_wp2
  go_loopg [14, 15] (m - a) (fun kx si sj wr => ∃ (i j : Nat), si = .int .i64 i ∧ sj = .int .i64 j ∧ a ≤ i ∧ i ≤ j ∧ j ≤ m ∧ j - i ≤ kx ∧ Aside (SW enc w0 blk off d wr) ∧
    Hid (∀ x, a ≤ x → x < i → ltOf cf d[m]! d[x]! = false) ∧ Hid (∀ x, j ≤ x → x < m → ltOf cf d[m]! d[x]! = true))
  case atStart => exact ⟨a, m, rfl, rfl, Nat.le_refl _, by omega, Nat.le_refl _, by omega, S1, fun x h1 h2 => by omega, fun x h1 h2 => by omega⟩
  case round =>
    clear S1
    obtain ⟨i, j, rfl, rfl, hai, hij, hjb, hkx, S1, H1, H2⟩ := hrel
    by_cases hlt : i < j
    · have hltz : (i : Int) < (j : Int) := by omega
      obtain ⟨h, hh⟩ : ∃ h, h = (i + j) / 2 := ⟨_, rfl⟩
      have hih : i ≤ h := by omega
      have hhj : h < j := by omega
      have hz : ((i : Int) + (j : Int)) / 2 = (h : Int) := by omega
      have bh : (h : Int) < (N : Int) := by omega
      have bm : (m : Int) < (N : Int) := by omega
      clear hh
      obtain ⟨x1, hx1⟩ : ∃ x, x = d[m]! := ⟨_, rfl⟩
      obtain ⟨y1, hy1⟩ : ∃ x, x = d[h]! := ⟨_, rfl⟩
      have l1a := S1.out.cl R (by omega) (m) (by omega)
      have l1b := S1.out.cl R (by omega) (h) (by omega)
      rw [← hx1] at l1a
      rw [← hy1] at l1b
      have hc1 := S1.out.cmp HC.out (by omega) x1 y1
      obtain ⟨bv, hd1⟩ : ∃ bv, decide (cf x1 y1 < 0) = bv := ⟨_, rfl⟩
      have HV : Hid (ltOf cf d[m]! d[h]! = bv) := by rw [← hx1, ← hy1]; exact hd1
      clear hx1 hy1
      go_wp2_with fail
      go_quiet_grown (first | (go_at_fn g; refine Calls.grown_of (hc1 _ _)))
      have S2 : Aside (SW enc w0 blk off d (grow (wr.drewN nq) osq)) := S1.out.grown nq osq
      clear l1a l1b hc1 hd1 S1
      generalize grow (wr.drewN nq) osq = w2 at S2 ⊢
      clear nq osq
      cases bv with
      | true =>
        go_wp2
        go_roundg (h - i)
        case measure => omega
        case rel => exact ⟨i, h, rfl, rfl, hai, by omega, by omega, by omega, S2, H1.out, fun x h1 h2 => HM.out.mono hO (show a ≤ h by omega) h1 h2 (Nat.le_refl m) (Nat.le_refl m) (by omega) HV.out⟩
      | false =>
        go_wp2
        go_roundg (j - (h + 1))
        case measure => omega
        case rel => exact ⟨h + 1, j, by go_num, rfl, by omega, by omega, hjb, by omega, S2, fun x h1 h2 => HM.out.mono' hO h1 (show x ≤ h by omega) (by omega) (Nat.le_refl m) (Nat.le_refl m) (by omega) HV.out, H2.out⟩
    · have hltz : ¬ (i : Int) < (j : Int) := by omega
      obtain rfl : i = j := by omega
      clear hlt hij
      go_wp2
      go_loopg [17] (m - i) (fun kx sk wr2 => ∃ (kk : Nat) (dk : Array Nat), sk = .int .i64 kk ∧ i ≤ kk ∧ kk ≤ m ∧ kk - i ≤ kx ∧ dk.size = N ∧ Aside (SW enc w0 blk off dk wr2) ∧ Hid (RotOf kk m (m + 1) d dk) ∧ Hid (PermIn a (m + 1) d dk))
      case atStart => exact ⟨m, d, rfl, hjb, Nat.le_refl _, Nat.le_refl _, hs, S1, rot_nil_left m (m + 1) d, permIn_refl _ _ _⟩
      case round =>
        clear S1
        obtain ⟨kk, dk, rfl, hk1, hk2, hkx2, hds, S1, HR, HP⟩ := hrel
        by_cases hlt2 : i < kk
        · have z : (i : Int) < (kk : Int) := by omega
          obtain ⟨kp, rfl⟩ : ∃ kp, kk = kp + 1 := ⟨kk - 1, by omega⟩
          have hwp : IntKind.i64.wrap (kp : Int) = (kp : Int) := by rw [IntKind.wrap_i64]; omega
          have z' : (i : Int) < (kp : Int) + 1 := by omega
          have jz : (kp : Int) + 1 < (N : Int) := by omega
          have jz1 : (kp : Int) < (N : Int) := by omega
          have p0 : (0 : Int) ≤ (kp : Int) + 1 := by omega
          have e0 : ((kp : Int) + 1).toNat = kp + 1 := by omega
          have hdl : d.size = N := hs
          obtain ⟨iN44, hiN44⟩ : ∃ q, q = kp + 1 := ⟨_, rfl⟩
          rw [← hiN44] at e0
          obtain ⟨x44, hx44⟩ : ∃ x, x = dk[kp + 1]! := ⟨_, rfl⟩
          obtain ⟨y44, hy44⟩ : ∃ x, x = dk[kp]! := ⟨_, rfl⟩
          have S2 : Aside (SW enc w0 blk off (swp dk (kp + 1) (kp)) ((wr.setCell ⟨blk, off + iN44, none⟩ (enc y44)).setCell ⟨blk, off + kp, none⟩ (enc x44)).drew) := by rw [hiN44, hx44, hy44]; exact S1.out.swapped R (kp + 1) (kp) (by omega) (by omega)
          have c44a := S1.out.c1 R (by omega) (kp + 1) (by omega)
          have c44b := S1.out.c1 R (by omega) (kp) (by omega)
          have f44a := S1.out.f1 R (by omega) (kp + 1) (by omega)
          have f44b := S1.out.f1 R (by omega) (kp) (by omega)
          obtain ⟨u44, c44c⟩ := S1.out.c2 R (by omega) (kp + 1) (kp) (by omega) (by omega) (enc y44)
          rw [← hiN44] at c44c
          rw [← hx44, ← hiN44] at c44a
          rw [← hy44] at c44b
          rw [← hiN44] at f44a
          clear S1 hx44 hy44 hiN44
          go_wp2_with fail
          go_big_region_o
          clear c44a c44b c44c f44a f44b
          generalize ((wr.setCell ⟨blk, off + iN44, none⟩ (enc y44)).setCell ⟨blk, off + kp, none⟩ (enc x44)).drew = w2 at S2 ⊢
          go_wp2
          go_roundg (kp - i)
          case measure => omega
          case rel => exact ⟨kp, swp dk (kp + 1) kp, by go_num, by omega, by omega, by omega, by rw [size_swp]; exact hds, S2, rot_step_left HR.out hk2 (by omega), permIn_trans _ _ _ _ _ HP.out (swp_permIn _ _ _ _ _ (by omega) (by omega) (by omega) (by omega) (by omega))⟩
        · have z : ¬ (i : Int) < (kk : Int) := by omega
          obtain rfl : kk = i := by omega
          go_wp2
          (try simp only [Exit.inBlock, Exit.then]); refine bodyPost_ret (results_none rfl _ _ _) rfl ?_
          exact ⟨rfl, dk, S1.out, HP.out, one_right hO HM.out hai hjb H1.out H2.out HR.out⟩

set_option maxHeartbeats 8000000 in
set_option maxRecDepth 100000 in
theorem symM3 (L : Lays P) (enc : Nat → Value) (cf : Nat → Nat → Int) (g : Nat) (cb : Array Value) (hO : SWO (ltOf cf)) (blk off cap : Nat) (d0 : Array Nat) (w0 : World)
    (eg : ∀ args w, (callFunc g args).run P w = .ok (.enter g args) w) (hcmp : CmpLays1 P g cb enc cf blk off d0.size w0) (R : Row1 enc w0 blk off d0) (N : Nat) (h0 : d0.size = N) (hsz : N < 4611686018427387904)
    (a m b : Nat) (d : Array Nat) (w : World) (hs : d.size = N) (S0 : SW enc w0 blk off d w) (hb : b ≤ N) (HM0 : Mp (ltOf cf) a m b d) (hm1 : ¬ m = a + 1) (hb1 : ¬ b = m + 1)
    (ih : ∀ (a' m' b' : Nat) (d : Array Nat) (w : World), b' - a' < b - a → d.size = N → SW enc w0 blk off d w → b' ≤ N → Mp (ltOf cf) a' m' b' d →
      Calls P 144 #[.slice (some ⟨blk, off, none⟩) N cap, .int .i64 a', .int .i64 m', .int .i64 b', .func (.func g) #[] cb] w fun e w' =>
        e = .returned (.tuple #[]) ∧ ∃ d', SW enc w0 blk off d' w' ∧ Post (ltOf cf) a' b' d d') :
    Calls P 144 #[.slice (some ⟨blk, off, none⟩) N cap, .int .i64 a, .int .i64 m, .int .i64 b, .func (.func g) #[] cb] w fun e w' =>
      e = .returned (.tuple #[]) ∧ ∃ d', SW enc w0 blk off d' w' ∧ Post (ltOf cf) a b d d' := by
  have mixed := L.mixed; have t0 := L.t0; have a0 := L.a0; have z0 := L.z0; have v0 := L.v0; have tI := L.tI; have aI := L.aI; have zI := L.zI; have vI := L.vI; have tB := L.tB; have aB := L.aB; have zB := L.zB; have vB := L.vB; have tS := L.tS; have aS := L.aS; have zS := L.zS; have vS := L.vS; have tF := L.tF; have aF := L.aF; have zF := L.zF; have vF := L.vF; have tU := L.tU; have aU := L.aU; have zU := L.zU; have vU := L.vU; have aE := L.aE; have zE := L.zE
  have hcl0 := R.hO.cells
  simp only [Value.cells] at hcl0
  have hst := R.hO.store P
  have eM : ∀ args w, (callFunc 144 args).run P w = .ok (.enter 144 args) w := em L
  have eR : ∀ args w, (callFunc 164 args).run P w = .ok (.enter 164 args) w := er L
  have HC : Aside _ := hcmp
  clear hcmp
  have ham := HM0.am
  have hmb := HM0.mb
  have S1 : Aside (SW enc w0 blk off d w) := S0
  have HM : Hid (Mp (ltOf cf) a m b d) := HM0
  clear S0 HM0
  have hta : ((m : Int) - (a : Int) == 1) = false := by rw [beq_eq_false_iff_ne]; omega
  have htb : ((b : Int) - (m : Int) == 1) = false := by rw [beq_eq_false_iff_ne]; omega
  obtain ⟨mid, hmid⟩ : ∃ mid, mid = (a + b) / 2 := ⟨_, rfl⟩
  have hm1' : a + 2 ≤ b := by omega
  have hmz : ((a : Int) + (b : Int)) / 2 = (mid : Int) := by omega
  have hma : 2 * mid ≤ a + b := by omega
  have hmb' : a + b ≤ 2 * mid + 1 := by omega
  clear hmid
  go_enter L.fm, Tryd.ntmps144
  go_upto_if 140 with fail
  go_cut [20, 21] from 138 to 146 (fun s r wx => ∃ s0 r0 : Nat, s = .int .i64 s0 ∧ r = .int .i64 r0 ∧ a ≤ s0 ∧ s0 ≤ r0 ∧ r0 ≤ m ∧ r0 ≤ mid ∧ mid + m ≤ b + s0 ∧ Hid (r0 = m ∨ r0 = mid) ∧ Hid (s0 = a ∨ mid + m = b + s0) ∧ w = wx)
  case first =>
    by_cases hgt : mid < m
    · have hg : (mid : Int) < (m : Int) := by omega
      go_wp2
      go_meet
      case rel => exact ⟨mid + m - b, mid, by go_num, rfl, by omega, by omega, by omega, by omega, by omega, .inr rfl, .inr (by omega), rfl⟩
    · have hg : ¬ (mid : Int) < (m : Int) := by omega
      go_wp2
      go_meet
      case rel => exact ⟨a, m, rfl, rfl, by omega, by omega, by omega, by omega, by omega, .inl rfl, .inl rfl, rfl⟩
  case rest =>
    obtain ⟨s0, r0, rfl, rfl, hs0, hsr, hrm, hrd, hnb, htop, hbot, rfl⟩ := hcut
    obtain ⟨p, hp⟩ : ∃ p, p + 1 = mid + m := ⟨mid + m - 1, by omega⟩
    have hpz : (mid : Int) + (m : Int) - 1 = (p : Int) := by omega
    go_upto_block 8 with fail
    go_cut [20, 21, 23] from 149 to 174 (fun s20 _ _ wx => ∃ i : Nat, s20 = .int .i64 i ∧ s0 ≤ i ∧ i ≤ r0 ∧ Aside (SW enc w0 blk off d wx) ∧
        Hid (∀ x, s0 ≤ x → x < i → ltOf cf d[p - x]! d[x]! = false) ∧ Hid (∀ x, i ≤ x → x < r0 → ltOf cf d[p - x]! d[x]! = true))
    case first =>
      go_wp2
      go_loopg [20, 21] (r0 - s0) (fun kx si sj wr => ∃ (i j : Nat), si = .int .i64 i ∧ sj = .int .i64 j ∧ s0 ≤ i ∧ i ≤ j ∧ j ≤ r0 ∧ j - i ≤ kx ∧ Aside (SW enc w0 blk off d wr) ∧
        Hid (∀ x, s0 ≤ x → x < i → ltOf cf d[p - x]! d[x]! = false) ∧ Hid (∀ x, j ≤ x → x < r0 → ltOf cf d[p - x]! d[x]! = true))
      case atStart => exact ⟨s0, r0, rfl, rfl, Nat.le_refl _, hsr, Nat.le_refl _, by omega, S1, fun x h1 h2 => by omega, fun x h1 h2 => by omega⟩
      case round =>
        clear S1
        obtain ⟨i, j, rfl, rfl, hai, hij, hjb, hkx, S1, H1, H2⟩ := hrel
        by_cases hlt : i < j
        · have hltz : (i : Int) < (j : Int) := by omega
          obtain ⟨h, hh⟩ : ∃ h, h = (i + j) / 2 := ⟨_, rfl⟩
          have hih : i ≤ h := by omega
          have hhj : h < j := by omega
          have hz : ((i : Int) + (j : Int)) / 2 = (h : Int) := by omega
          have bh : (h : Int) < (N : Int) := by omega
          have hhp : h ≤ p := by omega
          have hqm : m ≤ p - h := by omega
          have hqb : p - h < b := by omega
          have eq1 : ((p : Int) - (h : Int)).toNat = p - h := by omega
          have pq1 : (0 : Int) ≤ (p : Int) - (h : Int) := by omega
          have bq1 : (p : Int) - (h : Int) < (N : Int) := by omega
          have rq1 : IntKind.i64.wrap ((p : Int) - (h : Int)) = (p : Int) - (h : Int) := by rw [IntKind.wrap_i64]; omega
          clear hh
          obtain ⟨iN45, hiN45⟩ : ∃ q, q = p - h := ⟨_, rfl⟩
          rw [← hiN45] at eq1
          obtain ⟨x1, hx1⟩ : ∃ x, x = d[p - h]! := ⟨_, rfl⟩
          obtain ⟨y1, hy1⟩ : ∃ x, x = d[h]! := ⟨_, rfl⟩
          have l1a := S1.out.cl R (by omega) (p - h) (by omega)
          have l1b := S1.out.cl R (by omega) (h) (by omega)
          rw [← hx1, ← hiN45] at l1a
          rw [← hy1] at l1b
          have hc1 := S1.out.cmp HC.out (by omega) x1 y1
          obtain ⟨bv, hd1⟩ : ∃ bv, decide (cf x1 y1 < 0) = bv := ⟨_, rfl⟩
          have HV : Hid (ltOf cf d[p - h]! d[h]! = bv) := by rw [← hx1, ← hy1]; exact hd1
          clear hx1 hy1 hiN45
          go_wp2_with fail
          go_quiet_grown (first | (go_at_fn g; refine Calls.grown_of (hc1 _ _)))
          have S2 : Aside (SW enc w0 blk off d (grow (wr.drewN nq) osq)) := S1.out.grown nq osq
          clear l1a l1b hc1 hd1 S1
          generalize grow (wr.drewN nq) osq = w2 at S2 ⊢
          clear nq osq
          cases bv with
          | true =>
            go_wp2
            go_roundg (h - i)
            case measure => omega
            case rel => exact ⟨i, h, rfl, rfl, hai, by omega, by omega, by omega, S2, H1.out, fun x h1 h2 => HM.out.mono hO (show a ≤ h by omega) h1 (by omega) (by omega) (show p - x ≤ p - h by omega) hqb HV.out⟩
          | false =>
            go_wp2
            go_roundg (j - (h + 1))
            case measure => omega
            case rel => exact ⟨h + 1, j, by go_num, rfl, by omega, by omega, hjb, by omega, S2, fun x h1 h2 => HM.out.mono' hO (show a ≤ x by omega) (show x ≤ h by omega) (by omega) hqm (show p - h ≤ p - x by omega) (by omega) HV.out, H2.out⟩
        · have hltz : ¬ (i : Int) < (j : Int) := by omega
          obtain rfl : i = j := by omega
          clear hlt hij
          go_wp2
          go_meet
          case rel => exact ⟨i, rfl, hai, hjb, S1, H1, H2⟩
    case rest =>
      clear S1
      obtain ⟨i, rfl, hai, hjb, S1, H1, H2⟩ := hcut
      generalize wc = wr at S1 ⊢
      obtain ⟨en, hen⟩ : ∃ en, en = mid + m - i := ⟨_, rfl⟩
      have henz : (mid : Int) + (m : Int) - (i : Int) = (en : Int) := by omega
      have hme : m ≤ en := by omega
      have heb : en ≤ b := by omega
      have hie : i + en = mid + m := by omega
      have hx : i < m → m < en → ltOf cf d[en - 1]! d[i]! = true := fun h1 h2 => by
        have htop := htop.out
        have := H2.out i (Nat.le_refl _) (by omega)
        rwa [show p - i = en - 1 by omega] at this
      have hy : a < i → en < b → ltOf cf d[en]! d[i - 1]! = false := fun h1 h2 => by
        have hbot := hbot.out
        have := H1.out (i - 1) (by omega) (by omega)
        rwa [show p - (i - 1) = en by omega] at this
      have HX : Hid _ := hx
      have HY : Hid _ := hy
      have hmd : i ≤ mid := by omega
      have hden : mid ≤ en := by omega
      clear hen hx hy H1 H2
      go_upto_region 38 with fail
      go_cut [24] from 175 to 177 (fun s24 wx => s24 = .int .i64 en ∧ wr = wx)
      case first =>
        go_wp2
        go_meet
        case rel => exact ⟨rfl, rfl⟩
      case rest =>
      obtain ⟨rfl, rfl⟩ := hcut
      refine (‹∀ (a : Act) (w : World), Code.wp P _ _ a w → _› : ∀ (a : Act) (w : World), Code.wp P _ _ a w → _) _ _ ?_
      refine wp_seq_k (fun K2 hK2 => ?_)
      go_cut [20] from 178 to 191 (fun s20 wx => ∃ d1 : Array Nat, s20 = .int .i64 i ∧ Aside (SW enc w0 blk off d1 wx) ∧ d1.size = N ∧ Hid (Cross (ltOf cf) a i mid en b d1) ∧ Hid (PermIn a b d d1))
      case first =>
        by_cases c1 : i < m
        · have z1 : (i : Int) < (m : Int) := by omega
          by_cases c2 : m < en
          · have z2 : (m : Int) < (en : Int) := by omega
            go_wp2_with fail
            refine (rotate_any L enc blk off cap i m en d0 d _ wr _ R N h0 hs S1.out c1 c2 (by omega) hsz).mono ?_
            rintro e w' ⟨rfl, d', S', hrot, hpm⟩
            go_wp2
            go_meet
            case rel => exact ⟨d', rfl, S', by rw [hrot.1]; exact hs, cross_of hO HM.out (by omega) (by omega) hme heb hie HX.out HY.out hrot, permIn_mono _ _ _ _ _ _ (by omega) heb (by rw [hs]; exact hb) hpm⟩
          · have z2 : ¬ (m : Int) < (en : Int) := by omega
            have e : m = en := by omega
            have hr : RotOf i m en d d := by rw [← e]; exact rot_nil_right _ _ _
            clear e
            go_wp2
            go_meet
            case rel => exact ⟨d, rfl, S1, hs, cross_of hO HM.out (by omega) (by omega) hme heb hie HX.out HY.out hr, permIn_refl _ _ _⟩
        · have z1 : ¬ (i : Int) < (m : Int) := by omega
          have e : i = m := by omega
          have hr : RotOf i m en d d := by rw [e]; exact rot_nil_left _ _ _
          clear e
          go_wp2
          go_meet
          case rel => exact ⟨d, rfl, S1, hs, cross_of hO HM.out (by omega) (by omega) hme heb hie HX.out HY.out hr, permIn_refl _ _ _⟩
      case rest =>
      obtain ⟨d1, rfl, S2, hs1, HX1, HP1⟩ := hcut
      clear S1 HX HY
      refine hK2 _ _ ?_
      clear hK2
      refine wp_seq_k (fun K3 hK3 => ?_)
      go_cut [20] from 192 to 205 (fun s20 wx => ∃ d2 : Array Nat, s20 = .int .i64 i ∧ Aside (SW enc w0 blk off d2 wx) ∧ d2.size = N ∧ Hid (Post (ltOf cf) a mid d1 d2))
      case first =>
        by_cases c1 : a < i
        · have z1 : (a : Int) < (i : Int) := by omega
          by_cases c2 : i < mid
          · have z2 : (i : Int) < (mid : Int) := by omega
            go_wp2_with fail
            refine (ih a i mid d1 _ (by omega) hs1 S2.out (by omega) (HX1.out.left c1 c2)).mono ?_
            rintro e w' ⟨rfl, d', S', hpo⟩
            go_wp2
            go_meet
            case rel => exact ⟨d', rfl, S', by rw [hpo.1.1]; exact hs1, hpo⟩
          · have z2 : ¬ (i : Int) < (mid : Int) := by omega
            go_wp2
            go_meet
            case rel => exact ⟨d1, rfl, S2, hs1, HX1.out.left_id (fun h => c2 h.2)⟩
        · have z1 : ¬ (a : Int) < (i : Int) := by omega
          go_wp2
          go_meet
          case rel => exact ⟨d1, rfl, S2, hs1, HX1.out.left_id (fun h => c1 h.1)⟩
      case rest =>
      obtain ⟨d2, rfl, S3, hs2, HP2⟩ := hcut
      clear S2
      refine hK3 _ _ ?_
      clear hK3
      by_cases c1 : mid < en
      · have z1 : (mid : Int) < (en : Int) := by omega
        by_cases c2 : en < b
        · have z2 : (en : Int) < (b : Int) := by omega
          go_wp2_with fail
          refine (ih mid en b d2 _ (by omega) hs2 S3.out hb (HX1.out.right HP2.out c1 c2)).mono ?_
          rintro e w' ⟨rfl, d', S', hpo⟩
          go_wp2
          go_end0
          have hd := HX1.out.done HP2.out hpo
          exact ⟨rfl, d', S', permIn_trans _ _ _ _ _ HP1.out hd.1, hd.2⟩
        · have z2 : ¬ (en : Int) < (b : Int) := by omega
          go_wp2
          go_end0
          have hd := HX1.out.done HP2.out (HX1.out.right_id HP2.out (fun h => c2 h.2))
          exact ⟨rfl, d2, S3.out, permIn_trans _ _ _ _ _ HP1.out hd.1, hd.2⟩
      · have z1 : ¬ (mid : Int) < (en : Int) := by omega
        go_wp2
        go_end0
        have hd := HX1.out.done HP2.out (HX1.out.right_id HP2.out (fun h => c1 h.1))
        exact ⟨rfl, d2, S3.out, permIn_trans _ _ _ _ _ HP1.out hd.1, hd.2⟩

theorem symMerge_any (L : Lays P) (enc : Nat → Value) (cf : Nat → Nat → Int) (g : Nat) (cb : Array Value) (hO : SWO (ltOf cf)) (blk off cap : Nat) (d0 : Array Nat) (w0 : World)
    (eg : ∀ args w, (callFunc g args).run P w = .ok (.enter g args) w) (hcmp : CmpLays1 P g cb enc cf blk off d0.size w0) (R : Row1 enc w0 blk off d0) (N : Nat) (h0 : d0.size = N) (hsz : N < 4611686018427387904) :
    ∀ (NN a m b : Nat) (d : Array Nat) (w : World), b - a < NN → d.size = N → SW enc w0 blk off d w → b ≤ N → Mp (ltOf cf) a m b d →
    Calls P 144 #[.slice (some ⟨blk, off, none⟩) N cap, .int .i64 a, .int .i64 m, .int .i64 b, .func (.func g) #[] cb] w fun e w' =>
      e = .returned (.tuple #[]) ∧ ∃ d', SW enc w0 blk off d' w' ∧ Post (ltOf cf) a b d d' := by
  intro NN
  induction NN with
  | zero => intro _ _ _ _ _ h; exact absurd h (Nat.not_lt_zero _)
  | succ NN ih =>
    intro a m b d w hNN hs S0 hb HM
    by_cases hm1 : m = a + 1
    · exact symM1 L enc cf g cb hO blk off cap d0 w0 eg hcmp R N h0 hsz a m b d w hs S0 hb HM hm1
    · by_cases hb1 : b = m + 1
      · exact symM2 L enc cf g cb hO blk off cap d0 w0 eg hcmp R N h0 hsz a m b d w hs S0 hb HM hm1 hb1
      · exact symM3 L enc cf g cb hO blk off cap d0 w0 eg hcmp R N h0 hsz a m b d w hs S0 hb HM hm1 hb1 (fun a' m' b' d w h => ih a' m' b' d w (by omega))
end Go.Proofs.YteoljiclmhmbnaaDoor.Sb1

/-
  DERIVED: THE SHELF's CONTRACTS AT THIS DUMP, IN PLAIN WORDS (tools/lay-plain.mjs out of 'TrydInsSoft.lean', which tools/lay-shelf.mjs wrote): THE SAME DECLARATIONS UNDER THE SAME NAMES: 'import', 'namespace', 'open', 'def', 'theorem' AND NOTHING ELSE: no command of the shelf's: FOR A HAND-IN. Each laying: the table of numbers ('.._ren') and one theorem, a field a fact of the dump's own or the kernel's comparison; each contract: ONE APPLICATION.
-/
namespace Go.Proofs
open Go.Shelf
def Tryd.insRow_ren : Go.Shelf.Ren := ⟨fun | 20 => 143 | n => n, fun | 24 => 200 | 22 => 135 | 3 => 3 | 25 => 201 | 4 => 4 | 0 => 0 | n => n, fun | n => n⟩
theorem Tryd.insRow : Go.Proofs.SlLaysF.n20 Tryd.prog Tryd.insRow_ren := {
  mixed := by kernel_rfl
  f20 := ⟨Tryd.f143.name, by decide, Tryd.func143.trans (congrArg some (by kernel_rfl))⟩
  t0 := Tryd.underlying0
  a0 := Tryd.isAgg0
  z0 := Tryd.sizeOf0
  v0 := Tryd.zeroValue0
  t3 := Tryd.underlying3
  a3 := Tryd.isAgg3
  z3 := Tryd.sizeOf3
  v3 := Tryd.zeroValue3
  t4 := Tryd.underlying4
  a4 := Tryd.isAgg4
  z4 := Tryd.sizeOf4
  v4 := Tryd.zeroValue4
  t22 := Tryd.underlying135
  a22 := Tryd.isAgg135
  z22 := Tryd.sizeOf135
  v22 := Tryd.zeroValue135
  a24 := Tryd.isAgg200
  z24 := Tryd.sizeOf200
  t25 := Tryd.underlying201
  a25 := Tryd.isAgg201
  z25 := Tryd.sizeOf201
  v25 := Tryd.zeroValue201 }
end Go.Proofs

/-
  slices.SortStableFunc at pub-kaeriten/pub/kagomedict/dict/builder.Record: the walks of stableCmpFunc and SortStableFunc (printed by gen_stab.py).
-/
set_option linter.unusedVariables false
set_option linter.unusedSimpArgs false
namespace Go.Proofs.YteoljiclmhmbnaaDoor.Sb1
open Go.Shelf Go.RowKit Go.Lib Go.Sort Go.Proofs Go.Proofs.YteoljiclmhmbnaaDoor.St

theorem ins_any (enc : Nat → Value) (cf : Nat → Nat → Int) (g : Nat) (cb : Array Value) (hO : SWO (ltOf cf)) (blk off cap : Nat) (d0 : Array Nat) (w0 : World)
    (eg : ∀ args w, (callFunc g args).run Tryd.prog w = .ok (.enter g args) w) (hcmp : CmpLays1 Tryd.prog g cb enc cf blk off d0.size w0) (R : Row1 enc w0 blk off d0) (N : Nat) (h0 : d0.size = N) (hsz : N < 4611686018427387904)
    (a b : Nat) (d : Array Nat) (w : World) (hs : d.size = N) (S : SW enc w0 blk off d w) (hab : a ≤ b) (hb : b ≤ N) :
    Calls Tryd.prog 143 #[.slice (some ⟨blk, off, none⟩) N cap, .int .i64 a, .int .i64 b, .func (.func g) #[] cb] w fun e w' =>
      e = .returned (.tuple #[]) ∧ SW enc w0 blk off (insertionSort (ltOf cf) d a b) w' := by
  have h := Any.insertionSortCmpFunc_s Tryd.insRow enc cf g cb blk off cap a b d0 d w0 w eg hcmp R (by omega) S hab (by omega) (by omega)
  rw [hs] at h
  exact h

set_option maxHeartbeats 8000000 in
set_option maxRecDepth 100000 in
theorem stable_any (enc : Nat → Value) (cf : Nat → Nat → Int) (g : Nat) (cb : Array Value) (hO : SWO (ltOf cf)) (blk off cap : Nat) (w0 : World) (N : Nat)
    (eg : ∀ args w, (callFunc g args).run Tryd.prog w = .ok (.enter g args) w) (hcmp : CmpLays1 Tryd.prog g cb enc cf blk off N w0) (R : Row1 enc w0 blk off (Array.range N)) (hsz : N < 1152921504606846976) :
    Calls Tryd.prog 122 #[.slice (some ⟨blk, off, none⟩) N cap, .int .i64 N, .func (.func g) #[] cb] w0 fun e w' =>
      e = .returned (.tuple #[]) ∧ SW enc w0 blk off (stab (ltOf cf) N) w' := by
  have h0 : (Array.range N).size = N := by simp
  have HC : Hid _ := hcmp
  have HR : Hid _ := R
  have HO : Hid _ := hO
  have H0 : Hid _ := h0
  have hins := fun (a b : Nat) (d : Array Nat) (w : World) => ins_any enc cf g cb hO blk off cap (Array.range N) w0 eg (by rw [h0]; exact hcmp) R N h0 (by omega) a b d w
  have hmer := fun (a m b : Nat) (d : Array Nat) (w : World) => symMerge_any lays enc cf g cb hO blk off cap (Array.range N) w0 eg (by rw [h0]; exact hcmp) R N h0 (by omega) (b - a + 1) a m b d w (by omega)
  have HI : Hid _ := hins
  have HME : Hid _ := hmer
  have S0 : Hid (SW enc w0 blk off (Array.range N) w0) := SW.start R.hH
  clear hcmp R hO h0 hins hmer
  go_enter Tryd.func122, Tryd.ntmps122
  go_wp2
  go_loopg [7, 8] N (fun kx sa sb wr => ∃ (q A : Nat) (d : Array Nat), sa = .int .i64 A ∧ sb = .int .i64 ((A + 20 : Nat) : Int) ∧ Hid (A = 20 * q) ∧ A ≤ N ∧ N - A ≤ kx ∧ Hid (d.size = N) ∧ Hid (SW enc w0 blk off d wr) ∧
    Hid (Blk (ltOf cf) 20 0 (20 * q) d) ∧ Hid (∀ i, 20 * q ≤ i → i < N → d[i]! = i) ∧ Hid (PermIn 0 N (Array.range N) d))
  case atStart => exact ⟨0, 0, Array.range N, rfl, rfl, rfl, Nat.zero_le _, by omega, H0, S0, fun i h1 h2 => by omega, fun i _ h => get_range h, permIn_refl _ _ _⟩
  case round =>
    clear S0
    obtain ⟨q, A, d, rfl, rfl, HA, hAN, hkx, HS, S1, HB, HD, HP⟩ := hrel
    by_cases hle : A + 20 ≤ N
    · have hz : (A : Int) + 20 ≤ (N : Int) := by omega
      have hz' : ((A + 20 : Nat) : Int) ≤ (N : Int) := by omega
      have hb := blk_ins (b := A + 20) HO.out (by omega) HS.out HB.out HD.out (by have := HA.out; omega) (by have := HA.out; omega) hle
      rw [← HA.out] at hb
      have HBI : Hid _ := hb
      clear hb
      go_wp2_with fail
      refine (HI.out A (A + 20) d _ HS.out S1.out (by omega) hle).mono ?_
      rintro e w' ⟨rfl, hS2⟩
      have S2 : Hid _ := hS2
      clear hS2
      clear S1
      go_wp2
      go_roundg (N - (A + 20))
      case measure => omega
      case rel =>
        have he : 20 * (q + 1) = A + 20 := by have := HA.out; omega
        exact ⟨q + 1, A + 20, insertionSort (ltOf cf) d A (A + 20), by go_num, by go_num, he.symm, hle, by omega, HBI.out.2.1, S2, by show Blk _ _ _ _ _; rw [he]; exact HBI.out.1, by show ∀ _, _; rw [he]; exact HBI.out.2.2.1, permIn_trans _ _ _ _ _ HP.out HBI.out.2.2.2⟩
    · have hz : ¬ (A : Int) + 20 ≤ (N : Int) := by omega
      have hz' : ¬ ((A + 20 : Nat) : Int) ≤ (N : Int) := by omega
      have hb := blk_ins (b := N) HO.out (by omega) HS.out HB.out HD.out (by have := HA.out; omega) (by have := HA.out; omega) (Nat.le_refl _)
      rw [← HA.out] at hb
      have HBI : Hid _ := hb
      clear hb
      go_wp2_with fail
      refine (HI.out A N d _ HS.out S1.out hAN (Nat.le_refl _)).mono ?_
      rintro e w' ⟨rfl, hS2⟩
      have S2 : Hid _ := hS2
      clear hS2
      clear S1 HI
      have HB2 : Hid _ := HBI.out.1
      have HS2 : Hid _ := HBI.out.2.1
      have HP2 : Hid (PermIn 0 N (Array.range N) (insertionSort (ltOf cf) d A N)) := permIn_trans _ _ _ _ _ HP.out HBI.out.2.2.2
      clear HBI HA HS HB HD HP
      generalize insertionSort (ltOf cf) d A N = d1 at S2 HB2 HS2 HP2
      clear hAN hkx hle hz hz' d
      generalize (A : Int) = ja
      go_wp2
      go_loopg [6] N (fun ky sB wr2 => ∃ (B : Nat) (d : Array Nat), sB = .int .i64 B ∧ 20 ≤ B ∧ B ≤ 2 * N + 20 ∧ N - B ≤ ky ∧ Hid (d.size = N) ∧ Hid (SW enc w0 blk off d wr2) ∧ Hid (Blk (ltOf cf) B 0 N d) ∧ Hid (PermIn 0 N (Array.range N) d))
      case atStart => exact ⟨20, d1, rfl, by omega, by omega, by omega, HS2, S2, HB2, HP2⟩
      case round =>
        clear S2 HB2 HS2 HP2
        obtain ⟨B, d2, rfl, hB20, hBN, hky, HS2, S2, HB2, HP2⟩ := hrel
        by_cases hlt : B < N
        · have hz : (B : Int) < (N : Int) := by omega
          go_wp2
          go_loopg [7, 8] N (fun kz sa sb wr3 => ∃ (q A : Nat) (d : Array Nat), sa = .int .i64 A ∧ sb = .int .i64 ((A + 2 * B : Nat) : Int) ∧ Hid (A = 2 * B * q) ∧ A ≤ N ∧ N - A ≤ kz ∧ Hid (d.size = N) ∧ Hid (SW enc w0 blk off d wr3) ∧
            Hid (Blk (ltOf cf) (2 * B) 0 (2 * B * q) d) ∧ Hid (Blk (ltOf cf) B (2 * B * q) N d) ∧ Hid (PermIn 0 N (Array.range N) d))
          case atStart => exact ⟨0, 0, d2, rfl, by go_num, rfl, Nat.zero_le _, by omega, HS2, S2, fun i h1 h2 => by omega, HB2, HP2⟩
          case round =>
            clear S2 HB2 HS2 HP2
            obtain ⟨q, A, d, rfl, rfl, HA, hAN, hkz, HS, S1, HL, HH, HP⟩ := hrel
            by_cases hle : A + 2 * B ≤ N
            · have hz : ((A + 2 * B : Nat) : Int) ≤ (N : Int) := by omega
              have hz' : (A : Int) + 2 * (B : Int) ≤ (N : Int) := by omega
              have hmp : Mp (ltOf cf) A (A + B) (A + 2 * B) d := by
                have h1 := HA.out
                have := blk_mp (q := q) (b := A + 2 * B) (by omega) HH.out (by rw [HS.out]; exact Nat.le_refl _) (by omega) (by omega) hle
                rwa [← h1] at this
              have HMP : Hid _ := hmp
              clear hmp
              have hm := HME.out A (A + B) (A + 2 * B) d
              have e1 : ((A + B : Nat) : Int) = (A : Int) + (B : Int) := by omega
              rw [e1] at hm
              have HM : Hid _ := hm
              clear hm
              go_wp2_with fail
              refine (HM.out _ HS.out S1.out hle HMP.out).mono ?_
              rintro e w' ⟨rfl, d', hS2, hpo⟩
              have S2 : Hid _ := hS2
              clear hS2
              have HPO : Hid _ := hpo
              clear S1 hpo e1
              go_wp2
              go_roundg (N - (A + 2 * B))
              case measure => omega
              case rel =>
                have h1 := HA.out
                have he : 2 * B * (q + 1) = A + 2 * B := by rw [Nat.mul_add, ← h1]; omega
                refine ⟨q + 1, A + 2 * B, d', by go_num, by go_num, he.symm, hle, by omega, by show _ = _; rw [HPO.out.1.1]; exact HS.out, S2, ?_, ?_, permIn_trans _ _ _ _ _ HP.out (permIn_mono _ _ _ _ _ _ (Nat.zero_le _) hle (by rw [HS.out]; exact Nat.le_refl _) HPO.out.1)⟩
                · show Blk _ _ _ _ _
                  rw [he]
                  have hl := HL.out
                  have hh := HH.out
                  have hpo := HPO.out
                  rw [h1] at hpo hle ⊢
                  exact blk_more (lo' := 0) (by omega) hl (by omega) (Nat.le_refl _) (by rw [HS.out]; exact hle) hpo.1 (fun i h2 h3 => blk_tag2 (by omega) hh i h2 (by omega) h3) hpo.2
                · show Blk _ _ _ _ _
                  rw [he]
                  exact blk_rest (blk_mono HH.out (by omega) (Nat.le_refl _)) HPO.out.1 (Nat.le_refl _)
            · have hz : ¬ ((A + 2 * B : Nat) : Int) ≤ (N : Int) := by omega
              have hz' : ¬ (A : Int) + 2 * (B : Int) ≤ (N : Int) := by omega
              by_cases hm : A + B < N
              · have hy : (A : Int) + (B : Int) < (N : Int) := by omega
                have hmp : Mp (ltOf cf) A (A + B) N d := by
                  have h1 := HA.out
                  have := blk_mp (q := q) (b := N) (by omega) HH.out (by rw [HS.out]; exact Nat.le_refl _) (by omega) (by omega) (Nat.le_refl _)
                  rwa [← h1] at this
                have HMP : Hid _ := hmp
                clear hmp
                have hm := HME.out A (A + B) N d
                have e1 : ((A + B : Nat) : Int) = (A : Int) + (B : Int) := by omega
                rw [e1] at hm
                have HM : Hid _ := hm
                clear hm
                go_wp2_with fail
                refine (HM.out _ HS.out S1.out (Nat.le_refl _) HMP.out).mono ?_
                rintro e w' ⟨rfl, d', hS2, hpo⟩
                have S2 : Hid _ := hS2
                clear hS2
                have HPO : Hid _ := hpo
                clear S1 hpo e1
                go_wp2
                go_roundg (N - 2 * B)
                case measure => omega
                case rel =>
                  have h1 := HA.out
                  refine ⟨B * 2, d', by go_num, by omega, by omega, by omega, by show _ = _; rw [HPO.out.1.1]; exact HS.out, S2, ?_, permIn_trans _ _ _ _ _ HP.out (permIn_mono _ _ _ _ _ _ (Nat.zero_le _) (Nat.le_refl _) (by rw [HS.out]; exact Nat.le_refl _) HPO.out.1)⟩
                  show Blk _ _ _ _ _
                  have hl := HL.out
                  have hh := HH.out
                  have hpo := HPO.out
                  rw [h1] at hpo hle hAN
                  rw [Nat.mul_comm B 2]
                  exact blk_more (lo' := 0) (by omega) hl hAN (by omega) (by rw [HS.out]; exact Nat.le_refl _) hpo.1 (fun i h2 h3 => blk_tag2 (by omega) hh i h2 h3 (by omega)) hpo.2
              · have hy : ¬ (A : Int) + (B : Int) < (N : Int) := by omega
                go_wp2
                go_roundg (N - 2 * B)
                case measure => omega
                case rel =>
                  have h1 := HA.out
                  refine ⟨B * 2, d, by go_num, by omega, by omega, by omega, HS, S1, ?_, HP⟩
                  show Blk _ _ _ _ _
                  have hl := HL.out
                  have hh := HH.out
                  rw [h1] at hle hAN hm
                  rw [Nat.mul_comm B 2]
                  exact blk_more (lo' := 0) (by omega) hl hAN (by omega) (by rw [HS.out]; exact Nat.le_refl _) (permIn_refl _ _ _) (fun i h2 h3 => blk_tag2 (by omega) hh i h2 h3 (by omega))
                    (blk_sorted (q := 2 * q) (by omega) hh (by rw [← Nat.mul_assoc, Nat.mul_comm B 2]; exact Nat.le_refl _) (by rw [← Nat.mul_assoc, Nat.mul_comm B 2]; omega))
        · have hz : ¬ (B : Int) < (N : Int) := by omega
          go_wp2
          go_end0
          refine ⟨rfl, ?_⟩
          rw [← blk_end HO.out (by omega) HB2.out HP2.out]
          exact S2.out
end Go.Proofs.YteoljiclmhmbnaaDoor.Sb1

/-
  A row of records (texts) of one's own, sorted by slices.SortStableFunc by their first texts.
-/
set_option linter.unusedVariables false
set_option linter.unusedSimpArgs false
namespace Go.Proofs.YteoljiclmhmbnaaDoor.Tx
open Go.RowKit Go.Proofs.YteoljiclmhmbnaaDoor.K Go.Proofs.YteoljiclmhmbnaaDoorW.PrintWords
open Go.Sort (Holds putRow mapBlock putCells onCells grow SWO)
open Go.Proofs.YteoljiclmhmbnaaDoor.St (stab)

abbrev tRc : Nat := 200
def kRow : Kd (List ByteArray) := Kd.slice 9 Kd.string
/-- The first text of a row. -/
def hd0 (r : List ByteArray) : List UInt8 := (r.headD default).data.toList

theorem head_get {l : List ByteArray} (h : 0 < l.length) : l[0] = l.headD default := by
  cases l with
  | nil => simp at h
  | cons x r => rfl
theorem heap_sortE {α : Type} [Inhabited α] {enc : α → Value} {w : World} {g n : Nat} {os : Array Obj} {cur : Array Value} {e : TypeId} {fr : Nat × Nat} (d : Array α) (hb : w.heap[g]? = some (.cells cur e fr)) :
    (grow (putRow enc (Go.Sort.ahead w n) g 0 d) os).heap[g]? = some (.cells (putCells enc 0 d cur) e fr) := by
  have hg : g < w.heap.size := (Array.getElem?_eq_some_iff.1 hb).1
  rw [Go.Sort.heap_grow_old _ _ (by simpa using hg)]
  simp [putRow, mapBlock, Go.Sort.ahead, Array.getElem?_modify, hb, onCells]
theorem heap_sortN {α : Type} [Inhabited α] {enc : α → Value} {w : World} {g n : Nat} {os : Array Obj} (d : Array α) {k : Nat} (hk : k < w.heap.size) (hne : k ≠ g) :
    (grow (putRow enc (Go.Sort.ahead w n) g 0 d) os).heap[k]? = w.heap[k]? := by
  rw [Go.Sort.heap_grow_old _ _ (by simpa using hk)]
  have : g ≠ k := fun e => hne e.symm
  simp [putRow, mapBlock, Go.Sort.ahead, Array.getElem?_modify, this]
theorem grownBy_sortE {α : Type} [Inhabited α] {enc : α → Value} {w : World} {g n : Nat} {os : Array Obj} (d : Array α) : w.grownBy (grow (putRow enc (Go.Sort.ahead w n) g 0 d) os) (some g) :=
  ⟨rfl, rfl, rfl, by simp, fun k hk hne => heap_sortN d hk (fun e => hne (by rw [e]))⟩
theorem take_putE {enc : Nat → Value} (cur : Array Value) (d : Array Nat) (h : d.size ≤ cur.size) : (putCells enc 0 d cur).toList.take d.size = d.toList.map enc := by
  apply List.ext_getElem?
  intro j
  by_cases hj : j < d.size
  · rw [List.getElem?_take_of_lt hj, Array.getElem?_toList]
    simp [putCells, hj, show j < cur.size by omega, getElem!_pos d j hj]
  · rw [List.getElem?_take_eq_none (by omega), List.getElem?_eq_none (by simp; omega)]
theorem holds_range {enc : Nat → Value} {w : World} {g n : Nat} {cur : Array Value} {e : TypeId} {inner : List Value} (hb : w.heap[g]? = some (.cells cur e (0, 0))) (hl : inner.length = n) (ht : cur.toList.take n = inner) (he : ∀ j (hj : j < inner.length), enc j = inner[j]) :
    Holds enc w g 0 (Array.range n) := by
  intro j hj
  have hj' : j < n := by simpa using hj
  refine ⟨?_, by simp [World.frozen?, hb]⟩
  have h1 : (cur.toList.take n)[j]? = inner[j]? := by rw [ht]
  have h2 : inner[j]? = some inner[j] := List.getElem?_eq_getElem (by omega)
  rw [List.getElem?_take_of_lt hj', h2] at h1
  simp only [World.cell?, hb, Nat.zero_add]
  simp only [Option.isSome_none, Bool.false_eq_true, if_false]
  rw [← Array.getElem?_toList, h1, St.get_range hj', he j (by omega)]
theorem cmpRow_any (a b : ByteArray) (A B : Addr) (n1 c1 n2 c2 : Nat) (h1 : 0 < n1) (h2 : 0 < n2) (w : World) (ha : w.cell? A = some (.string a)) (hb : w.cell? B = some (.string b)) :
    Calls Tryd.prog 96 #[.slice (some A) n1 c1, .slice (some B) n2 c2] w fun e w' =>
      e = .returned (.int .i64 (Lib.compareBytes a.data.toList b.data.toList)) ∧ ∃ q os, w' = grow (w.drewN q) os := by
  have z1 : (0 : Int) < (n1 : Int) := by omega
  have z2 : (0 : Int) < (n2 : Int) := by omega
  go_enter Tryd.func96, Tryd.ntmps96
  go_wp2_with fail
  go_quiet ((go_at_call 63; exact Calls.quiet_of_same (Tryd.strings_Compare a b _)))
  go_wp2
  go_ret
  exact ⟨rfl, nq, #[], by rw [Go.Sort.grow_empty]⟩

set_option maxHeartbeats 1000000 in
theorem sortRows_any {base : Nat} {ok : Nat → Prop} {v : Value} {xs : List (List ByteArray)} {w : World} (hpos : 0 < xs.length) (h : kRow.R tRc w base ok v xs) (hlen : xs.length < 1152921504606846976) (hne : ∀ r ∈ xs, 0 < r.length) :
    Calls Tryd.prog 95 #[v, .func (.func 96) #[] #[]] w fun e w' =>
      e = .returned (.tuple #[]) ∧ kRow.R tRc w' base ok v (sortK hd0 xs) ∧ w.grownBy w' v.ownBlock := by
  obtain ⟨h0, inner, ho, hr⟩ := h
  have e1 : kRow.sz = 1 := rfl
  have hil : inner.length = xs.length := by rw [hr.1, e1, Nat.mul_one]
  rcases ho.2 with ⟨_, hn⟩ | ⟨g, cap, cur, rfl, hb, hh, h1, h2, h3, h4⟩
  · omega
  have hgl := lt_of_heap hh
  obtain ⟨enc, henc⟩ : ∃ enc : Nat → Value, enc = fun i => inner.getD (min i (xs.length - 1)) undef := ⟨_, rfl⟩
  have hen : ∀ j (hj : j < inner.length), enc j = inner[j] := fun j hj => by
    rw [henc]
    simp only
    rw [Nat.min_eq_left (by omega)]
    simp [List.getD, hj]
  have hH : Holds enc w g 0 (Array.range xs.length) := holds_range hh hil (by rw [e1, Nat.mul_one] at h4; exact h4) hen
  obtain ⟨ok', hok'⟩ : ∃ ok' : Nat → Prop, ok' = fun k => ok k ∧ some k ≠ (Value.slice (some ⟨g, 0, none⟩) xs.length cap).ownBlock := ⟨_, rfl⟩
  rw [← hok'] at hr
  have hch : ∀ i, kRow.M w base ok' (xs.getD (min i (xs.length - 1)) default) [enc i] := fun i => by
    have hj : min i (xs.length - 1) < xs.length := by omega
    have := hr.2 (min i (xs.length - 1)) _ (List.getElem?_eq_getElem hj)
    rw [e1, Nat.mul_one] at this
    have e : xs.getD (min i (xs.length - 1)) default = xs[min i (xs.length - 1)] := by simp [List.getD, hj]
    rw [e]
    have e2 : (inner.drop (min i (xs.length - 1))).take 1 = [enc i] := by
      rw [henc, List.take_one, List.head?_drop, List.getElem?_eq_getElem (by omega)]
      simp [List.getD, show min i (xs.length - 1) < inner.length by omega]
    rw [← e2]
    exact this
  have hshape : ∀ i, ∃ A c, enc i = .slice (some A) (xs.getD (min i (xs.length - 1)) default).length c ∧ 0 < (xs.getD (min i (xs.length - 1)) default).length ∧ A.block < w.heap.size ∧ A.block ≠ g ∧ w.cell? A = some (.string ((xs.getD (min i (xs.length - 1)) default).headD default)) := fun i => by
    have hj : min i (xs.length - 1) < xs.length := by omega
    have hl : 0 < (xs.getD (min i (xs.length - 1)) default).length := by
      have e : xs.getD (min i (xs.length - 1)) default = xs[min i (xs.length - 1)] := by simp [List.getD, hj]
      rw [e]; exact hne _ (List.getElem_mem _)
    obtain ⟨v, hv, hR⟩ := hch i
    obtain rfl : enc i = v := by simpa using hv
    obtain ⟨A, c, hev, hlc, hC⟩ := Kd.R_reads hR
    obtain ⟨ad, rfl, hcell⟩ := strs_at hC 0 hl
    have hz : ad.add 0 = ad := by unfold Addr.add; simp
    rw [hz] at hcell
    refine ⟨ad, c, hev, hl, World.block_lt_of_cell? _ _ hcell, ?_, ?_⟩
    · obtain ⟨hk, _, ⟨hl2, hrow⟩, _⟩ := hR
      rcases hrow with ⟨he, _⟩ | ⟨g', cap', cur', he, _⟩
      · rw [he] at hev; cases hev
      · rw [he] at hev
        injection hev with hev
        injection hev with hev
        subst hev
        have := hk g' (by rw [he]; rfl)
        rw [hok'] at this
        intro e
        exact this.2 (by simp [Value.ownBlock]; exact e)
    · rw [hcell, head_get hl]
  have hO : OneCell enc := fun i => by obtain ⟨A, c, he, _⟩ := hshape i; rw [he]; rfl
  have hR : Row1 enc w g 0 (Array.range xs.length) := ⟨hO, hH, hgl⟩
  have hcmp : CmpLays1 Tryd.prog 96 #[] enc (cfK hd0 xs) g 0 xs.length w := fun m os dk _ x y => by
    obtain ⟨A, c, he, hl1, hA1, hA2, hA⟩ := hshape x
    obtain ⟨B, c', he', hl2, hB1, hB2, hB⟩ := hshape y
    rw [he, he']
    have hk : ∀ (C : Addr) (u : Value), C.block < w.heap.size → C.block ≠ g → w.cell? C = some u → (sortWorld enc w g 0 m dk os).cell? C = some u := fun C u h1 h2 h3 => by
      unfold sortWorld
      rw [← h3]
      unfold World.cell?
      rw [heap_sortN dk h1 h2]
    exact cmpRow_any _ _ A B _ c _ c' hl1 hl2 _ (hk A _ hA1 hA2 hA) (hk B _ hB1 hB2 hB)
  have hst := Sb1.stable_any enc (cfK hd0 xs) 96 #[] (by rw [ltOf_cfK]; exact swo_ltK hd0 xs) g 0 cap w xs.length
    (Bears.enters (B := Tryd.f96) ⟨_, by decide, Tryd.func96⟩ rfl) hcmp hR hlen
  have HST := Lib.hid hst
  have HR := Lib.hid hr
  have HCH := Lib.hid hch
  have HH := Lib.hid hh
  have HOK := Lib.hid hok'
  have HIL := Lib.hid hil
  have HEN := Lib.hid hen
  clear hst hcmp hR hH hr hch hok' h4 hen hshape hO hil henc
  go_enter Tryd.func95, Tryd.ntmps95
  go_wp2_with fail
  refine HST.out.mono ?_
  rintro e w' ⟨rfl, n', os, rfl⟩
  have HB := Lib.hid (grownBy_sortE (enc := enc) (w := w) (g := g) (n := n') (os := os) (stab (ltOf (cfK hd0 xs)) xs.length))
  have HV := Lib.hid (heap_sortE (enc := enc) (n := n') (os := os) (stab (ltOf (cfK hd0 xs)) xs.length) HH.out)
  have HN := Lib.hid (fun k hk hne => heap_sortN (enc := enc) (w := w) (g := g) (n := n') (os := os) (stab (ltOf (cfK hd0 xs)) xs.length) (k := k) hk hne)
  have hww : sortWorld enc w g 0 n' (stab (ltOf (cfK hd0 xs)) xs.length) os = grow (putRow enc (Go.Sort.ahead w n') g 0 (stab (ltOf (cfK hd0 xs)) xs.length)) os := rfl
  rw [hww]
  generalize grow (putRow enc (Go.Sort.ahead w n') g 0 (stab (ltOf (cfK hd0 xs)) xs.length)) os = w1 at HB HV HN
  clear hww
  go_wp2
  go_end0
  refine ⟨rfl, ?_, HB.out⟩
  have hV := HV.out
  have hN := HN.out
  have hil := HIL.out
  have hr := HR.out
  rw [ltOf_cfK] at hV
  have hds := St.stab_size (swo_ltK hd0 xs) xs.length
  have hsl := sortK_length hd0 xs
  have hok := HOK.out
  refine ⟨h0, (stab (ltK hd0 xs) xs.length).toList.map enc, ⟨by simp [hds, hsl, e1], .inr ⟨g, cap, _, by rw [hsl], hb, hV, by rw [hsl]; exact h1, h2, by simpa [putCells] using h3, ?_⟩⟩, by simp [hds, hsl, e1], ?_⟩
  · rw [hsl, e1, Nat.mul_one]
    have := take_putE (enc := enc) cur (stab (ltK hd0 xs) xs.length) (by rw [hds, h3, e1]; omega)
    rw [hds] at this
    exact this
  · intro j p hp
    have hj : j < xs.length := by rw [← hsl]; exact (List.getElem?_eq_some_iff.1 hp).1
    have hg := sortK_get hd0 xs j hj
    rw [hp] at hg
    have hpe := Option.some.inj hg
    have hlt := stab_lt (swo_ltK hd0 xs) hj
    have hm := HCH.out ((stab (ltK hd0 xs) xs.length)[j]!)
    rw [Nat.min_eq_left (show (stab (ltK hd0 xs) xs.length)[j]! ≤ xs.length - 1 by omega), ← hpe] at hm
    have e2 : (((stab (ltK hd0 xs) xs.length).toList.map enc).drop (j * 1)).take 1 = [enc (stab (ltK hd0 xs) xs.length)[j]!] := by
      rw [Nat.mul_one, List.take_one, List.head?_drop, List.getElem?_map, Array.getElem?_toList, Array.getElem?_eq_getElem (by omega)]
      simp [getElem!_pos (stab (ltK hd0 xs) xs.length) j (by omega)]
    rw [e1, e2, ← hok]
    refine kRow.M_mono (fun k hk => hk.1) (kRow.M_move (fun k hk => hN k hk.2.2.1 ?_) (kRow.M_bound hm))
    have h5 := hk.1
    rw [hok] at h5
    intro e
    exact h5.2 (by rw [e]; rfl)
end Go.Proofs.YteoljiclmhmbnaaDoor.Tx

/-
  Copies of lists of texts: slices.Clone at []string, and impl.copied.
-/
set_option linter.unusedVariables false
set_option linter.unusedSimpArgs false
namespace Go.Proofs.YteoljiclmhmbnaaDoor.K
open Go.RowKit Go.Proofs.YteoljiclmhmbnaaDoorW.PrintWords

set_option maxHeartbeats 400000 in
theorem clone_strs (A : Option Addr) (c : Nat) (xs : List ByteArray) (w : World) (hC : Kd.string.C w A xs.length xs) (hb : xs.length * 16 ≤ 140737488355328) :
    Calls Tryd.prog 60 #[.slice A xs.length c] w (RetRow Kd.string 9 xs w) := by
  have q := fun (w : World) (a : Option Addr) (n c n' c' : Nat) => Lib.run_eql_slice_nil (P := Tryd.prog) w _ _ a n c n' c' Tryd.underlying29
  have HC := Lib.hid hC
  clear hC
  rcases A with _ | ad
  · have h0 : xs = [] := by
      cases xs with
      | nil => rfl
      | cons x r => obtain ⟨ad, h, _⟩ := HC.out.2.2 (by simp); cases h
    subst h0
    go_enter Tryd.func60, Tryd.ntmps60
    go_wp2
    go_ret
    exact ⟨_, rfl, Kd.R_nil _ _ _ _ _, Below.refl _ _⟩
  · go_enter Tryd.func60, Tryd.ntmps60
    go_wp2_with (at_builtin; refine Kd.R_append_row (w0 := w) Value.string ByteArray.empty w.heap.size rfl _ _ 29 9 (.string ⟨#[]⟩) 16 rfl Tryd.underlying29 (by kernel_rfl) rfl (by decide) (.slice (some ⟨w.heap.size, 0, none⟩) 0 0) [] xs (some ad) xs.length c (fun _ => True) rfl rfl (fun _ _ => trivial) (R_empty _ _ _ _ (Nat.le_refl _)) (Kd.C_alloc HC.out _) ((Below.refl _ _).alloc (Nat.le_refl _) _) (by simp) (by simpa using hb) ?_)
    intro v1 w1 hR hB hg hat
    go_wp2
    go_ret
    exact ⟨v1, rfl, hR, hB⟩

end Go.Proofs.YteoljiclmhmbnaaDoor.K

/-
  The walks of impl.recs and builder.checkRecords.
-/
set_option linter.unusedVariables false
set_option linter.unusedSimpArgs false
namespace Go.Proofs.YteoljiclmhmbnaaDoor.Tx
open Go.RowKit Go.Proofs.YteoljiclmhmbnaaDoor.K Go.Proofs.YteoljiclmhmbnaaDoorW.PrintWords

theorem rows_one {w : World} {A : Option Addr} {n : Nat} {xs : List (List ByteArray)} (h : kRow.C w A n xs) : ∀ j (hj : j < xs.length), ∃ ad A1 c1, A = some ad ∧ w.cell? (ad.add j) = some (.slice A1 xs[j].length c1) ∧ xs[j].length ≤ c1 ∧ Kd.string.C w A1 xs[j].length xs[j] := by
  intro j hj
  obtain ⟨ad, A1, c1, h1, h2, h3, h4⟩ := rows_at h j hj
  exact ⟨ad, A1, c1, h1, h2, h3, h4⟩
theorem row_info : (Tryd.prog.info? tRc).map (fun i => (i.zero, i.size, i.bytes)) = some (some (.slice none 0 0), kRow.sz, 24) := by
  show _ = some (some (Value.slice none 0 0), 1, 24)
  kernel_rfl

set_option maxHeartbeats 1000000 in
theorem recs_any (A : Option Addr) (c : Nat) (xs : List (List ByteArray)) (w : World) (hC : kRow.C w A xs.length xs) (hb : ∀ r ∈ xs, r.length * 16 ≤ 140737488355328) (hb' : xs.length * 24 ≤ 140737488355328) :
    Calls Tryd.prog 54 #[.slice A xs.length c] w (RetRow kRow tRc xs w) := by
  have HC := Lib.hid hC
  have HB := Lib.hid hb
  clear hC hb
  go_enter Tryd.func54, Tryd.ntmps54
  go_wp2
  go_loopw [3, 8] (fun v i wr => ∃ k : Nat, k ≤ xs.length ∧ i = .int .i64 k ∧ Hid (kRow.R tRc wr w.heap.size (fun _ => True) v (xs.take k)) ∧ Hid (Below w.heap.size w wr)) (fun _ i _ => xs.length - (intOf i).toNat)
  case atStart => exact ⟨0, Nat.zero_le _, rfl, Lib.hid (Kd.R_nil _ _ _ _ _), Lib.hid (Below.refl _ _)⟩
  case round =>
    obtain ⟨k, hk, rfl, hR, hbel⟩ := hrel
    have hszr := hbel.out.size
    by_cases hlt : k < xs.length
    · obtain ⟨ad, A1, c1, rfl, h0, hlc, hC1⟩ := rows_one (Kd.C_below HC.out hbel.out) k hlt
      have hbr := HB.out _ (List.getElem_mem hlt)
      have HT := Lib.hid (List.take_succ_eq_append_getElem hlt)
      have htl : (xs.take k).length = k := by rw [List.length_take]; omega
      generalize xs[k] = r at *
      have HTL := Lib.hid htl
      have HC1 := Lib.hid (clone_strs A1 c1 r wr hC1 hbr)
      have HVB := Lib.hid (fun q e => ((own_lt (Kd.R_own hR.out).choose_spec q e) : q < wr.heap.size))
      clear htl hC1 hbr hlc
      go_wp2_with fail
      refine HC1.out.mono ?_
      rintro e w2 ⟨v2, rfl, hR2, hB2⟩
      obtain ⟨A2, c2, rfl⟩ := Kd.R_slice hR2
      have HR2 := Lib.hid hR2
      have HB2 := Lib.hid hB2
      have hz2 := hB2.size
      have HRA := Lib.hid (Kd.R_below hR.out hB2)
      have HL2 := Lib.hid (hbel.out.trans (hB2.mono hszr))
      clear hR2 hB2 HC1
      go_wp2_with (first
        | (at_builtin; refine kapp (w0 := w) kRow w.heap.size rfl _ _ 136 tRc (.slice none 0 0) 24 rfl Tryd.underlying136 row_info rfl (by decide) (by decide) _ (xs.take k) r [.slice A2 r.length c2] (fun _ => True) (fun q => wr.heap.size ≤ q) w2.heap.size rfl rfl ?hg ⟨_, rfl, ?hM⟩ ?hokp (fun _ _ => trivial) (Kd.R_alloc HRA.out _) (HL2.out.alloc HL2.out.size _) (by have := HL2.out.size; simp; omega) (by rw [HTL.out]; omega) ?_)
        | fail)
      case hg => intro q u hq; rw [cell_of_heap (heap_new _ _)]; simpa using hq
      case hM => exact Kd.R_lower (Kd.R_mono (Kd.R_bound (Kd.R_alloc HR2.out _)) (fun _ hk => hk.2.1)) hszr
      case hokp => intro q hq; exact ⟨trivial, fun e => by have := HVB.out q e.symm; omega⟩
      intro v4 w4 hR4 hB4 hg4 hat4
      have HR4 := Lib.hid hR4
      have HB4 := Lib.hid hB4
      clear hR4 hB4 hg4 hat4
      go_wp2
      exact ⟨⟨k + 1, by omega, by go_num, Lib.hid (by rw [HT.out]; exact HR4.out), HB4⟩, by simp [intOf]; omega⟩
    · obtain rfl : k = xs.length := by omega
      have h := hR.out
      rw [List.take_length] at h
      have HH := Lib.hid h
      clear h
      go_wp2
      go_ret
      exact ⟨_, rfl, HH.out, hbel.out⟩

/-- What checkRecords answers: nil, if all rows have so many columns. -/
def ChkRet (xs : List (List ByteArray)) (n : Nat) (w : World) (e : Ending) (w' : World) : Prop :=
  ((∀ r ∈ xs, r.length = n) ∧ e = .returned .nilIface ∨ (∃ r ∈ xs, r.length ≠ n) ∧ ∃ b : Nat, e = .returned (.iface 183 (.pointer (some ⟨b, 0, none⟩)))) ∧ Below w.heap.size w w'
set_option maxHeartbeats 1000000 in
theorem check_any (A : Option Addr) (c : Nat) (xs : List (List ByteArray)) (n : Nat) (hn : 0 < n) (w : World) (hC : kRow.C w A xs.length xs) :
    Calls Tryd.prog 94 #[.slice A xs.length c, .int .i64 n] w (ChkRet xs n w) := by
  have hm := hC.2.1
  have HC := Lib.hid hC
  clear hC
  have hnz : (0 : Int) < (n : Int) := by omega
  go_enter Tryd.func94, Tryd.ntmps94
  go_wp2
  go_loopw [9] (fun i wr => ∃ k : Nat, k ≤ xs.length ∧ i = .int .i64 k ∧ Hid (∀ r ∈ xs.take k, r.length = n) ∧ Below w.heap.size w wr) (fun i _ => xs.length - (intOf i).toNat)
  case atStart => exact ⟨0, Nat.zero_le _, rfl, Lib.hid (by simp), Below.refl _ _⟩
  case round =>
    obtain ⟨k, hk, rfl, hall, hbel⟩ := hrel
    by_cases hlt : k < xs.length
    · obtain ⟨ad, A1, c1, rfl, h0, hlc, hC1⟩ := rows_one (Kd.C_below HC.out hbel) k hlt
      have HT := Lib.hid (List.take_succ_eq_append_getElem hlt)
      have HM := Lib.hid (List.getElem_mem hlt)
      generalize xs[k] = r at *
      clear hC1
      by_cases hr : r.length = n
      · have ht : ((r.length : Int) != (n : Int)) = false := by rw [hr]; simp
        have HR := Lib.hid hr
        clear hr
        go_wp2
        refine ⟨⟨k + 1, by omega, by go_num, Lib.hid ?_, hbel⟩, by simp [intOf]; omega⟩
        rw [HT.out]
        intro q hq
        rcases List.mem_append.1 hq with hq | hq
        · exact hall.out q hq
        · rw [List.mem_singleton.1 hq]; exact HR.out
      · have ht : ((r.length : Int) != (n : Int)) = true := by simp; omega
        have HR := Lib.hid hr
        clear hr
        go_wp2
        all_goals
          go_ret
          refine ⟨.inr ⟨⟨r, HM.out, HR.out⟩, _, rfl⟩, ?_⟩
          exact hbel.alloc hbel.size _
    · obtain rfl : k = xs.length := by omega
      have h := hall.out
      rw [List.take_length] at h
      go_wp2
      go_ret
      exact ⟨.inl ⟨h, rfl⟩, hbel⟩
end Go.Proofs.YteoljiclmhmbnaaDoor.Tx

/-
  A region that draws its order, by one condition that every operation keeps, in whatever order they come up.
-/
set_option linter.unusedVariables false
namespace Go.Proofs.YteoljiclmhmbnaaDoor.Ri
open Go

section
variable {P : Program} {ops : Array Oper} {Q : Exit → Act → World → Prop}

/-- Which operations have come up. -/
def onL (listed : Array Bool) (i : Nat) : Bool := listed.getD i false
theorem onL_set {listed : Array Bool} {i : Nat} (hi : i < listed.size) (j : Nat) : onL (listed.setIfInBounds i true) j = (onL listed j || j == i) := by
  unfold onL
  rw [Array.getD_eq_getD_getElem?, Array.getD_eq_getD_getElem?, Array.getElem?_setIfInBounds]
  by_cases h : i = j
  · subst h
    simp [hi]
  · rw [if_neg h]
    have : (j == i) = false := by rw [beq_eq_false_iff_ne]; exact fun e => h e.symm
    rw [this, Bool.or_false]
theorem ready_iff {listed : Array Bool} (hs : listed.size = ops.size) {i : Nat} : i ∈ Region.ready .any ops listed ↔ i < ops.size ∧ onL listed i = false ∧ ∀ o, ops[i]? = some o → ∀ e ∈ o.after, Region.binds .any e = true → onL listed e.on = true := by
  unfold Region.ready
  rw [List.mem_filter, List.mem_range]
  constructor
  · rintro ⟨h1, h2⟩
    simp only [Bool.and_eq_true, Bool.not_eq_true'] at h2
    obtain ⟨h2, h3⟩ := h2
    refine ⟨h1, ?_, fun o ho e he hb => ?_⟩
    · unfold onL
      rw [Array.getD_eq_getD_getElem?] at h2 ⊢
      rw [Array.getElem?_eq_getElem (by omega)] at h2 ⊢
      exact h2
    · rw [ho] at h3
      simp only [Option.map_some, Option.getD_some, Array.all_eq_true_iff_forall_mem, Bool.or_eq_true, Bool.not_eq_true'] at h3
      rcases h3 e he with h4 | h4
      · rw [h4] at hb; cases hb
      · exact h4
  · rintro ⟨h1, h2, h3⟩
    refine ⟨h1, ?_⟩
    simp only [Bool.and_eq_true, Bool.not_eq_true']
    refine ⟨?_, ?_⟩
    · unfold onL at h2
      rw [Array.getD_eq_getD_getElem?] at h2 ⊢
      rw [Array.getElem?_eq_getElem (by omega)] at h2 ⊢
      exact h2
    · rw [Array.getElem?_eq_getElem h1]
      simp only [Option.map_some, Option.getD_some, Array.all_eq_true_iff_forall_mem, Bool.or_eq_true, Bool.not_eq_true']
      intro e he
      cases hb : Region.binds .any e with
      | false => exact .inl rfl
      | true => exact .inr (h3 _ (Array.getElem?_eq_getElem h1) e he hb)

/-- How many have not come up. -/
def leftL (n : Nat) (listed : Array Bool) : Nat := ((List.range n).filter fun j => !onL listed j).length
theorem leftL_set {n : Nat} {listed : Array Bool} (hs : listed.size = n) {i : Nat} (hi : i < n) (h : onL listed i = false) : leftL n (listed.setIfInBounds i true) < leftL n listed := by
  unfold leftL
  have e : (fun j => !onL (listed.setIfInBounds i true) j) = fun j => (!onL listed j) && !(j == i) := by
    funext j
    rw [onL_set (by omega) j]
    cases onL listed j <;> cases j == i <;> rfl
  rw [e]
  have : ∀ l : List Nat, i ∈ l → (l.filter fun j => (!onL listed j) && !(j == i)).length < (l.filter fun j => !onL listed j).length := by
    intro l
    have hle : ∀ l : List Nat, (l.filter fun j => (!onL listed j) && !(j == i)).length ≤ (l.filter fun j => !onL listed j).length := by
      intro l
      induction l with
      | nil => exact Nat.le_refl _
      | cons x l ih =>
        rw [List.filter_cons, List.filter_cons]
        by_cases h1 : onL listed x = true
        · simp only [h1, Bool.not_true, Bool.false_and, Bool.false_eq_true, if_false]; exact ih
        · rw [Bool.not_eq_true] at h1
          simp only [h1, Bool.not_false, Bool.true_and, if_true]
          split
          · simp; exact ih
          · simp; omega
    induction l with
    | nil => intro h; simp at h
    | cons x l ih =>
      intro hm
      rw [List.filter_cons, List.filter_cons]
      by_cases hx : x = i
      · subst hx
        simp only [h, Bool.not_false, beq_self_eq_true, Bool.not_true, Bool.and_false, Bool.false_eq_true, if_false, if_true, List.length_cons]
        have := hle l
        omega
      · have hm' : i ∈ l := by
          rcases List.mem_cons.1 hm with h1 | h1
          · exact absurd h1.symm hx
          · exact h1
        have hxi : (x == i) = false := by rw [beq_eq_false_iff_ne]; exact hx
        have := ih hm'
        simp only [hxi, Bool.not_false, Bool.and_true]
        split
        · simp; exact this
        · exact this
  exact this _ (List.mem_range.2 hi)

theorem region_inv {id : Nat} {a : Act} {w : World} (hm : P.follows .mixedOrders = true) (I : (Nat → Bool) → Act → World → Prop) (h0 : I (fun _ => false) a w.drew)
    (step : ∀ (l : Nat → Bool) (a : Act) (w : World) (i : Nat) (o : Oper), ops[i]? = some o → l i = false → (∀ e ∈ o.after, Region.binds .any e = true → l e.on = true) → I l a w →
      if Region.wanted o (yielded ops a.tmps) = true then Oper.wp P o a w (fun a' w' => I (fun j => l j || j == i) a' w') Q else I (fun j => l j || j == i) (a.put o.dst undef) w)
    (done : ∀ (l : Nat → Bool) (a : Act) (w : World), (∀ i, i < ops.size → (∀ o, ops[i]? = some o → ∀ e ∈ o.after, Region.binds .any e = true → l e.on = true) → l i = true) → I l a w → Q .normal a w) :
    (Code.region id ops true).wp P Q a w := by
  have key : ∀ (fuel : Nat) (listed : Array Bool) (a : Act) (w : World), listed.size = ops.size → leftL ops.size listed ≤ fuel → I (onL listed) a w → wpAnyH P .any ops Q (fun _ => True) fuel listed a w := by
    intro fuel
    induction fuel with
    | zero =>
      intro listed a w hs hl hI
      have hr : Region.ready .any ops listed = [] := by
        rw [List.eq_nil_iff_forall_not_mem]
        intro i hi
        obtain ⟨h1, h2, _⟩ := (ready_iff hs).1 hi
        have := leftL_set hs h1 h2
        omega
      refine ⟨hr, done (onL listed) a w (fun i hi hd => ?_) hI⟩
      cases h : onL listed i with
      | true => rfl
      | false =>
        have : i ∈ Region.ready .any ops listed := (ready_iff hs).2 ⟨hi, h, hd⟩
        rw [hr] at this
        simp at this
    | succ fuel ih =>
      intro listed a w hs hl hI
      refine ⟨fun hr => done (onL listed) a w (fun i hi hd => ?_) hI, fun i hi => ?_⟩
      · cases h : onL listed i with
        | true => rfl
        | false =>
          have : i ∈ Region.ready .any ops listed := (ready_iff hs).2 ⟨hi, h, hd⟩
          rw [hr] at this
          simp at this
      · obtain ⟨h1, h2, h3⟩ := (ready_iff hs).1 hi
        have ho := Array.getElem?_eq_getElem h1
        have hst := step (onL listed) a w i _ ho h2 (h3 _ ho) hI
        have e : (fun j => onL listed j || j == i) = onL (listed.setIfInBounds i true) := by
          funext j
          rw [onL_set (by omega) j]
        have hnext : ∀ a' w', I (fun j => onL listed j || j == i) a' w' → True ∧ wpAnyH P .any ops Q (fun _ => True) fuel (listed.setIfInBounds i true) a' w' := fun a' w' hI' => by
          refine ⟨trivial, ih _ a' w' (by simpa using hs) ?_ (by rw [← e]; exact hI')⟩
          have := leftL_set hs h1 h2
          omega
        unfold wpOp
        rw [ho]
        simp only
        by_cases hwant : Region.wanted ops[i] (yielded ops a.tmps) = true
        · rw [if_pos hwant] at hst
          rw [if_pos hwant]
          exact .inl (Oper.wp_mono hnext hst)
        · rw [if_neg hwant] at hst
          rw [if_neg hwant]
          exact hnext _ _ hst
  refine wp_region_held_drew hm (S := fun _ => True) trivial fun _ => ?_
  refine key _ _ _ _ (by simp) ?_ ?_
  · unfold leftL
    exact Nat.le_trans (List.length_filter_le _ _) (by simp)
  · have : onL (Array.replicate ops.size false) = fun _ => false := by
      funext j
      unfold onL
      rw [Array.getD_eq_getD_getElem?, Array.getElem?_replicate]
      split <;> rfl
    rw [this]
    exact h0
/-- Each operation waits for earlier ones alone. -/
def topo (ops : Array Oper) : Bool := (List.range ops.size).all fun i => ((ops[i]?).map (·.after.all fun e => decide (e.on < i))).getD true
theorem all_on (ht : topo ops = true) {l : Nat → Bool} (h : ∀ i, i < ops.size → (∀ o, ops[i]? = some o → ∀ e ∈ o.after, Region.binds .any e = true → l e.on = true) → l i = true) : ∀ i, i < ops.size → l i = true := by
  intro i
  induction i using Nat.strongRecOn with
  | ind i ih =>
    intro hi
    refine h i hi fun o ho e he _ => ?_
    unfold topo at ht
    rw [List.all_eq_true] at ht
    have := ht i (List.mem_range.2 hi)
    rw [ho] at this
    simp only [Option.map_some, Option.getD_some, Array.all_eq_true_iff_forall_mem, decide_eq_true_eq] at this
    have hlt := this e he
    exact ih e.on hlt (by omega)
/-- The condition rule: I holds at the start, every operation that may come up keeps it, and at the end all have come up. -/
theorem region_rule {id : Nat} {a : Act} {w : World} (hm : P.follows .mixedOrders = true) (ht : topo ops = true) (I : (Nat → Bool) → Act → World → Prop) (h0 : I (fun _ => false) a w.drew)
    (step : ∀ (i : Nat) (o : Oper), ops[i]? = some o → ∀ (l : Nat → Bool) (a : Act) (w : World), l i = false → (∀ e ∈ o.after, Region.binds .any e = true → l e.on = true) → I l a w →
      if Region.wanted o (yielded ops a.tmps) = true then Oper.wp P o a w (fun a' w' => I (fun j => l j || j == i) a' w') Q else I (fun j => l j || j == i) (a.put o.dst undef) w)
    (done : ∀ (l : Nat → Bool) (a : Act) (w : World), (∀ i, i < ops.size → l i = true) → I l a w → Q .normal a w) :
    (Code.region id ops true).wp P Q a w :=
  region_inv hm I h0 (fun l a w i o ho hl hd hI => step i o ho l a w hl hd hI) (fun l a w hall hI => done l a w (all_on ht hall) hI)

/-- A register that is set if its operation has come up. -/
def cput (b : Bool) (d : Nat) (v : Value) (a : Act) : Act := if b = true then a.put (some d) v else a
theorem cput_true (d : Nat) (v : Value) (a : Act) : cput true d v a = a.put (some d) v := rfl
theorem cput_false (d : Nat) (v : Value) (a : Act) : cput false d v a = a := rfl
theorem put_size (a : Act) (d : Option Tmp) (v : Value) : (a.put d v).tmps.size = a.tmps.size := by cases d <;> simp [Act.put]
theorem cput_size (b : Bool) (d : Nat) (v : Value) (a : Act) : (cput b d v a).tmps.size = a.tmps.size := by
  unfold cput
  split
  · exact put_size _ _ _
  · rfl
theorem eval_put_ne {s d : Nat} (h : s ≠ d) (v : Value) (a : Act) : (a.put (some d) v).eval (.tmp s) = a.eval (.tmp s) := by
  simp only [Act.eval, Act.put, Array.getD_eq_getD_getElem?]
  rw [Array.getElem?_setIfInBounds, if_neg (fun e => h e.symm)]
theorem eval_put_eq {d : Nat} {a : Act} (h : d < a.tmps.size) (v : Value) : (a.put (some d) v).eval (.tmp d) = v := by
  simp only [Act.eval, Act.put, Array.getD_eq_getD_getElem?]
  rw [Array.getElem?_setIfInBounds, if_pos rfl, if_pos h]
  rfl
theorem eval_const (a : Act) (v : Value) : a.eval (.const v) = v := rfl
theorem eval_cput_ne {s d : Nat} (h : s ≠ d) (b : Bool) (v : Value) (a : Act) : (cput b d v a).eval (.tmp s) = a.eval (.tmp s) := by
  unfold cput
  split
  · exact eval_put_ne h v a
  · rfl
theorem put_comm {d e : Nat} (h : d ≠ e) (u v : Value) (a : Act) : (a.put (some d) v).put (some e) u = (a.put (some e) u).put (some d) v := by
  simp only [Act.put, Act.mk.injEq, and_true]
  exact Array.setIfInBounds_comm _ _ h
theorem put_cput {d e : Nat} (h : d ≠ e) (b : Bool) (u v : Value) (a : Act) : (cput b d v a).put (some e) u = cput b d v (a.put (some e) u) := by
  unfold cput
  split
  · exact put_comm h u v a
  · rfl
/-- A step whose run is known. -/
theorem op_ok {o : Oper} {a : Act} {w w' : World} {v : Value} {K : Act → World → Prop} (hw : Region.wanted o (yielded ops a.tmps) = true) (h : (execOp a.eval o).run P w = .ok (.value v) w') (hK : K (a.put o.dst v) w') :
    if Region.wanted o (yielded ops a.tmps) = true then Oper.wp P o a w K Q else K (a.put o.dst undef) w := by
  rw [if_pos hw]
  unfold Oper.wp
  rw [h]
  exact hK
theorem op_skip {o : Oper} {a : Act} {w w' : World} {K : Act → World → Prop} (hw : Region.wanted o (yielded ops a.tmps) = true) (h : (execOp a.eval o).run P w = .ok .skip w') (hK : K (a.put o.dst undef) w') :
    if Region.wanted o (yielded ops a.tmps) = true then Oper.wp P o a w K Q else K (a.put o.dst undef) w := by
  rw [if_pos hw]
  unfold Oper.wp
  rw [h]
  exact hK
end
end Go.Proofs.YteoljiclmhmbnaaDoor.Ri

/-
  builder.parseUnkDef: its head (three maps and the dictionary, in whatever order they are made).
-/
set_option linter.unusedVariables false
set_option linter.unusedSimpArgs false
namespace Go.Proofs.YteoljiclmhmbnaaDoor.Tx
open Go Go.RowKit Go.Proofs.YteoljiclmhmbnaaDoor.K Go.Proofs.YteoljiclmhmbnaaDoorW.PrintWords Go.Proofs.YteoljiclmhmbnaaDoor.Mi Go.Maps

abbrev tInfo : Nat := 168
abbrev tUnk : Nat := 125
def infoCells : Array Value := #[.int .i64 6, .int .i64 0, .int .i64 1, .int .i64 2, .int .i64 3, .int .i64 4, .int .i64 5]

theorem start_at {P : Program} {Q : Exit → Act → World → Prop} {C : Code} {a : Act} {w : World} (h : ∀ a0, a0 = a → C.wp P Q a0 w) : C.wp P Q a w := h a rfl

abbrev tS : Nat := 9
abbrev tI8 : Nat := 176
def kStart : ByteArray := ⟨#[95, 112, 111, 115, 95, 115, 116, 97, 114, 116]⟩
def kHier : ByteArray := ⟨#[95, 112, 111, 115, 95, 104, 105, 101, 114, 97, 114, 99, 104, 121]⟩
def lit8 (z : Int) : DataW Unit := .lit (.int .i8 z)
/-- The dictionary's marks, so far. -/
def D3 (b c : Bool) : DataW Unit :=
  match b, c with
  | false, false => .map []
  | true, false => (DataW.map []).put (.string kStart.data.toList) (lit8 0)
  | false, true => (DataW.map []).put (.string kHier.data.toList) (lit8 1)
  | true, true => ((DataW.map []).put (.string kStart.data.toList) (lit8 0)).put (.string kHier.data.toList) (lit8 1)
def n3 (b c : Bool) : Nat := (if b then 1 else 0) + (if c then 1 else 0)
theorem lawS : Keyed Tryd.prog tS := string_keyed Tryd.underlying9
theorem keyS (s : ByteArray) (h : s.size ≤ maxLen) : keyOf Tryd.prog tS (.string s) = some (.string s.data.toList) := WideMaps.keyOf_string_mk Tryd.underlying9 h
theorem D3_start (c : Bool) : (D3 false c).put (.string kStart.data.toList) (lit8 0) = D3 true c := by
  cases c
  · rfl
  · show ((DataW.map []).put (.string kHier.data.toList) (lit8 1)).put (.string kStart.data.toList) (lit8 0) = ((DataW.map []).put (.string kStart.data.toList) (lit8 0)).put (.string kHier.data.toList) (lit8 1)
    kernel_rfl
theorem D3_hier (b : Bool) : (D3 b false).put (.string kHier.data.toList) (lit8 1) = D3 b true := by cases b <;> rfl

/-- What has been made so far. -/
structure Head (b0 b1 b2 b3 b14 b17 b18 : Bool) (m1 m2 m3 p : Nat) (w0 w : World) : Prop where
  hb : Below w0.heap.size w0 w
  f0 : b0 = true → w0.heap.size ≤ m1 ∧ w.heap[m1]? = some (.map #[] 0)
  f1 : b1 = true → w0.heap.size ≤ m2 ∧ w.heap[m2]? = some (.map #[] 0)
  f2 : b2 = true → w0.heap.size ≤ m3 ∧ w.ownsMap Tryd.prog tS (plainElem Tryd.prog tI8) m3 (n3 b3 b14) (D3 b3 b14)
  f17 : b17 = true → w0.heap.size ≤ p ∧ w.heap[p]? = some (.cells (if b18 = true then #[.slice none 0 0, .map (some m1), .map (some m2), .map (some m3), .slice none 0 0] else #[.slice none 0 0, .map none, .map none, .map none, .slice none 0 0]) tUnk (0, 0))
  n01 : b0 = true → b1 = true → m1 ≠ m2
  n02 : b0 = true → b2 = true → m1 ≠ m3
  n12 : b1 = true → b2 = true → m2 ≠ m3
section
variable {b0 b1 b2 b3 b14 b17 b18 : Bool} {m1 m2 m3 p : Nat} {w0 w : World}
theorem Head.keep (h : Head b0 b1 b2 b3 b14 b17 b18 m1 m2 m3 p w0 w) {w' : World} (hb : Below w.heap.size w w') : Head b0 b1 b2 b3 b14 b17 b18 m1 m2 m3 p w0 w' where
  hb := h.hb.trans (hb.mono h.hb.size)
  f0 e := ⟨(h.f0 e).1, (hb.block m1 (lt_of_heap (h.f0 e).2)).trans (h.f0 e).2⟩
  f1 e := ⟨(h.f1 e).1, (hb.block m2 (lt_of_heap (h.f1 e).2)).trans (h.f1 e).2⟩
  f2 e := ⟨(h.f2 e).1, by obtain ⟨es, cl, h1, r⟩ := (h.f2 e).2; exact ⟨es, cl, (hb.block m3 (lt_of_heap h1)).trans h1, r⟩⟩
  f17 e := ⟨(h.f17 e).1, (hb.block p (lt_of_heap (h.f17 e).2)).trans (h.f17 e).2⟩
  n01 := h.n01
  n02 := h.n02
  n12 := h.n12
theorem Head.alloc (h : Head b0 b1 b2 b3 b14 b17 b18 m1 m2 m3 p w0 w) (o : Obj) : Head b0 b1 b2 b3 b14 b17 b18 m1 m2 m3 p w0 (w.alloc o) := h.keep ((Below.refl _ _).alloc (Nat.le_refl _) _)
theorem Head.op0 (h : Head false b1 b2 b3 b14 b17 false m1 m2 m3 p w0 w) : Head true b1 b2 b3 b14 b17 false w.heap.size m2 m3 p w0 (w.alloc (.map #[] 0)) where
  hb := (h.alloc _).hb
  f0 _ := ⟨h.hb.size, heap_new _ _⟩
  f1 := (h.alloc _).f1
  f2 := (h.alloc _).f2
  f17 := (h.alloc (.map #[] 0)).f17
  n01 _ e := by have := lt_of_heap (h.f1 e).2; omega
  n02 _ e := by have := (h.f2 e).2.lt; omega
  n12 := h.n12
theorem Head.op1 (h : Head b0 false b2 b3 b14 b17 false m1 m2 m3 p w0 w) : Head b0 true b2 b3 b14 b17 false m1 w.heap.size m3 p w0 (w.alloc (.map #[] 0)) where
  hb := (h.alloc _).hb
  f0 := (h.alloc _).f0
  f1 _ := ⟨h.hb.size, heap_new _ _⟩
  f2 := (h.alloc _).f2
  f17 := (h.alloc (.map #[] 0)).f17
  n01 e _ := by have := lt_of_heap (h.f0 e).2; omega
  n02 := h.n02
  n12 _ e := by have := (h.f2 e).2.lt; omega
theorem Head.op2 (h : Head b0 b1 false false false b17 false m1 m2 m3 p w0 w) : Head b0 b1 true false false b17 false m1 m2 w.heap.size p w0 (w.alloc (.map #[] 0)) where
  hb := (h.alloc _).hb
  f0 := (h.alloc _).f0
  f1 := (h.alloc _).f1
  f2 _ := ⟨h.hb.size, World.ownsMap_made _ _ _ _⟩
  f17 := (h.alloc (.map #[] 0)).f17
  n01 := h.n01
  n02 e _ := by have := lt_of_heap (h.f0 e).2; omega
  n12 e _ := by have := lt_of_heap (h.f1 e).2; omega
theorem Head.op17 (h : Head b0 b1 b2 b3 b14 false false m1 m2 m3 p w0 w) : Head b0 b1 b2 b3 b14 true false m1 m2 m3 w.heap.size w0 (w.alloc (.cells #[.slice none 0 0, .map none, .map none, .map none, .slice none 0 0] tUnk)) where
  hb := (h.alloc _).hb
  f0 := (h.alloc _).f0
  f1 := (h.alloc _).f1
  f2 := (h.alloc _).f2
  f17 _ := ⟨h.hb.size, heap_new _ _⟩
  n01 := h.n01
  n02 := h.n02
  n12 := h.n12
theorem Head.ins (h : Head b0 b1 true b3 b14 b17 false m1 m2 m3 p w0 w) {b3' b14' : Bool} {w' : World} (hg : w.grownBy w' (some m3)) (ho : w'.ownsMap Tryd.prog tS (plainElem Tryd.prog tI8) m3 (n3 b3' b14') (D3 b3' b14')) : Head b0 b1 true b3' b14' b17 false m1 m2 m3 p w0 w' where
  hb := h.hb.grown hg h.hb.size (fun k hk => by cases hk; exact (h.f2 rfl).1)
  f0 e := ⟨(h.f0 e).1, (hg.block m1 (lt_of_heap (h.f0 e).2) (fun e' => h.n02 e rfl (Option.some.inj e'))).trans (h.f0 e).2⟩
  f1 e := ⟨(h.f1 e).1, (hg.block m2 (lt_of_heap (h.f1 e).2) (fun e' => h.n12 e rfl (Option.some.inj e'))).trans (h.f1 e).2⟩
  f2 _ := ⟨(h.f2 rfl).1, ho⟩
  f17 e := ⟨(h.f17 e).1, (hg.block p (lt_of_heap (h.f17 e).2) (fun e' => by
    obtain ⟨es, cl, h1, _⟩ := (h.f2 rfl).2
    have := (h.f17 e).2
    rw [Option.some.inj e', h1] at this
    cases this)).trans (h.f17 e).2⟩
  n01 := h.n01
  n02 := h.n02
  n12 := h.n12
theorem Head.i3 (h : Head b0 b1 true false b14 b17 false m1 m2 m3 p w0 w) : ∃ w', (Instr.mapUpdate 119 (.map (some m3)) (.string kStart) (.int .i8 0)).run Tryd.prog w = .ok () w' ∧ Head b0 b1 true true b14 b17 false m1 m2 m3 p w0 w' := by
  obtain ⟨w', h1, h2, h3⟩ := (h.f2 rfl).2.update lawS Tryd.underlying119 (by cases b14 <;> decide) (keyS kStart (by decide)) (plainElem_int Tryd.underlying176 (by decide : (Lit.int .i8 0).wf = true))
  exact ⟨w', h1, h.ins h3 (by have := D3_start b14; unfold lit8 at this; rw [this] at h2; refine h2.mono ?_; cases b14 <;> decide)⟩
theorem Head.i14 (h : Head b0 b1 true b3 false b17 false m1 m2 m3 p w0 w) : ∃ w', (Instr.mapUpdate 119 (.map (some m3)) (.string kHier) (.int .i8 1)).run Tryd.prog w = .ok () w' ∧ Head b0 b1 true b3 true b17 false m1 m2 m3 p w0 w' := by
  obtain ⟨w', h1, h2, h3⟩ := (h.f2 rfl).2.update lawS Tryd.underlying119 (by cases b3 <;> decide) (keyS kHier (by decide)) (plainElem_int Tryd.underlying176 (by decide : (Lit.int .i8 1).wf = true))
  exact ⟨w', h1, h.ins h3 (by have := D3_hier b3; unfold lit8 at this; rw [this] at h2; refine h2.mono ?_; cases b3 <;> decide)⟩
end
theorem zeroUnk (w : World) : (zeroValue tUnk).run Tryd.prog w = .ok (.agg #[.slice none 0 0, .map none, .map none, .map none, .slice none 0 0]) w := by kernel_rfl
def ptr (p j : Nat) : Value := .pointer (some ⟨p, j, none⟩)
/-- The registers so far. -/
def pt (l : Nat → Bool) (pi m1 m2 m3 p : Nat) (a : Act) : Act :=
  Ri.cput (l 17) 9 (ptr p 0) (Ri.cput (l 16) 45 (.agg #[.slice none 0 0, .map (some m1), .map (some m2), .map (some m3), .slice none 0 0]) (Ri.cput (l 15) 44 (.map (some m3)) (Ri.cput (l 13) 43 (.int .i8 1) (Ri.cput (l 12) 42 (.int .i64 1) (Ri.cput (l 11) 41 (.int .i64 4)
  (Ri.cput (l 10) 40 (ptr pi 5) (Ri.cput (l 9) 39 (ptr pi 0) (Ri.cput (l 8) 38 (ptr pi 0) (Ri.cput (l 7) 37 (.int .i64 5) (Ri.cput (l 6) 36 (ptr pi 6) (Ri.cput (l 5) 35 (ptr pi 0) (Ri.cput (l 4) 34 (ptr pi 0)
  (Ri.cput (l 2) 33 (.map (some m3)) (Ri.cput (l 1) 32 (.map (some m2)) (Ri.cput (l 0) 31 (.map (some m1)) a)))))))))))))))
def Dep (l : Nat → Bool) : Prop := (l 18 = true → l 0 = true ∧ l 1 = true ∧ l 2 = true ∧ l 3 = true ∧ l 14 = true ∧ l 17 = true) ∧ (l 3 = true → l 2 = true) ∧ (l 14 = true → l 2 = true) ∧ (l 16 = true → l 0 = true) ∧ (l 16 = true → l 1 = true) ∧ (l 16 = true → l 15 = true) ∧ (l 15 = true → l 2 = true)
def HeadL (l : Nat → Bool) (m1 m2 m3 p : Nat) (w0 w : World) : Prop := Head (l 0) (l 1) (l 2) (l 3) (l 14) (l 17) (l 18) m1 m2 m3 p w0 w ∧ Dep l
theorem no18 {l : Nat → Bool} (h : Dep l) (h' : l 0 = false ∨ l 1 = false ∨ l 2 = false ∨ l 3 = false ∨ l 14 = false ∨ l 17 = false) : l 18 = false := by
  cases e : l 18 with
  | false => rfl
  | true =>
    obtain ⟨h0, h1, h2, h3, h4, h5⟩ := h.1 e
    rcases h' with h' | h' | h' | h' | h' | h' <;> simp_all
theorem no_of {a b : Bool} (h : a = true → b = true) (hb : b = false) : a = false := by cases a <;> simp_all

end Go.Proofs.YteoljiclmhmbnaaDoor.Tx

/-
  The walks of zzIndex and zzSplit where the separator is one byte.
-/
set_option linter.unusedVariables false
set_option linter.unusedSimpArgs false
namespace Go.Proofs.YteoljiclmhmbnaaDoor.Tx
open Go.RowKit Go.Proofs.YteoljiclmhmbnaaDoor.K Go.Proofs.YteoljiclmhmbnaaDoorW.PrintWords

abbrev one (c : UInt8) : ByteArray := ⟨#[c]⟩
def toL (s : ByteArray) : List UInt8 := s.data.toList
def ofL (l : List UInt8) : ByteArray := ⟨l.toArray⟩
theorem toL_ofL (l : List UInt8) : toL (ofL l) = l := by simp [toL, ofL]
theorem ofL_toL (s : ByteArray) : ofL (toL s) = s := by cases s; simp [toL, ofL]
theorem toL_size (s : ByteArray) : (toL s).length = s.size := by simp [toL]
theorem ofL_size (l : List UInt8) : (ofL l).size = l.length := by simp [ofL, ByteArray.size]

theorem ofL_extract (l : List UInt8) (i j : Nat) : (ofL l).extract i j = ofL ((l.drop i).take (j - i)) := by
  apply ba_ext
  simp [ofL, ByteArray.data_extract, List.extract_eq_take_drop]
theorem ofL_toList (l : List UInt8) : (ofL l).toList = l := by rw [ByteArray.toList_eq]; simp [ofL]
theorem one_toList (c : UInt8) : (one c).toList = [c] := by rw [ByteArray.toList_eq]
theorem take1 (l : List UInt8) (k : Nat) (h : k < l.length) : (l.drop k).take (k + 1 - k) = [l[k]] := by
  rw [Nat.add_sub_cancel_left, List.drop_eq_getElem_cons h]; rfl
theorem not_mem_succ {l : List UInt8} {c : UInt8} {k : Nat} (hk : k < l.length) (h : c ∉ l.take k) (h2 : l[k] ≠ c) : c ∉ l.take (k + 1) := by
  rw [List.take_succ_eq_append_getElem hk]
  intro hm
  rcases List.mem_append.1 hm with hm | hm
  · exact h hm
  · exact h2 (List.mem_singleton.1 hm).symm
theorem idx_at {l : List UInt8} {c : UInt8} {k : Nat} (hk : k < l.length) (h : c ∉ l.take k) (h2 : l[k] = c) : c ∈ l ∧ l.idxOf c = k := by
  have hs : l = l.take k ++ c :: l.drop (k + 1) := by
    rw [← h2, ← List.drop_eq_getElem_cons hk, List.take_append_drop]
  refine ⟨by rw [← h2]; exact List.getElem_mem hk, ?_⟩
  have : (l.take k ++ c :: l.drop (k + 1)).idxOf c = k := by
    rw [List.idxOf_append, if_neg h, List.idxOf_cons_self, List.length_take]; omega
  rw [← hs] at this
  exact this
def ixInt (c : UInt8) (l : List UInt8) : Int := if c ∈ l then (l.idxOf c : Int) else -1

set_option maxHeartbeats 1000000 in
set_option maxRecDepth 5000 in
theorem index_any (l : List UInt8) (c : UInt8) (w : World) (hl : l.length ≤ 9223372036854775806) :
    Calls Tryd.prog 113 #[.string (ofL l), .string (one c)] w fun e w' => e = .returned (.int .i64 (ixInt c l)) ∧ w' = w := by
  have hz : (ofL l).size = l.length := ofL_size l
  have h1 : (one c).size = 1 := rfl
  generalize ho : one c = oc at h1 ⊢
  go_enter Tryd.func113, Tryd.ntmps113
  go_wp2
  go_loopw [5] (fun i wr => ∃ k : Nat, k ≤ l.length ∧ i = .int .i64 k ∧ Hid (c ∉ l.take k) ∧ wr = w) (fun i _ => l.length - (intOf i).toNat)
  case atStart => exact ⟨0, Nat.zero_le _, rfl, Lib.hid (by simp), rfl⟩
  case round =>
    obtain ⟨k, hk, rfl, hall, rfl⟩ := hrel
    by_cases hlt : k < l.length
    · have hex : ((ofL l).extract k (k + 1)).toList = [l[k]] := by rw [ofL_extract, ofL_toList, take1 l k hlt]
      by_cases hx : l[k] = c
      · have ht : (((ofL l).extract k (k + 1)).toList == oc.toList) = true := by rw [hex, ← ho, one_toList, hx]; simp
        have HI := Lib.hid (idx_at hlt hall.out hx)
        clear hx hex
        go_wp2
        go_ret
        exact ⟨by rw [ixInt, if_pos HI.out.1, HI.out.2]; rfl, rfl⟩
      · have ht : (((ofL l).extract k (k + 1)).toList == oc.toList) = false := by rw [hex, ← ho, one_toList]; simpa using hx
        have HI := Lib.hid (not_mem_succ hlt hall.out hx)
        clear hx hex
        go_wp2
        exact ⟨⟨k + 1, by omega, by go_num, HI, trivial⟩, by simp [intOf]; omega⟩
    · go_wp2
      go_ret
      obtain rfl : k = l.length := by omega
      have := hall.out
      rw [List.take_length] at this
      exact ⟨by rw [ixInt, if_neg this]; rfl, rfl⟩

def splitC (c : UInt8) : List UInt8 → List (List UInt8)
  | [] => [[]]
  | x :: r => if x = c then [] :: splitC c r else match splitC c r with
    | h :: t => (x :: h) :: t
    | [] => [[x]]
theorem splitC_ne (c : UInt8) (l : List UInt8) : splitC c l ≠ [] := by
  cases l with
  | nil => simp [splitC]
  | cons x r =>
    rw [splitC]
    split
    · simp
    · split <;> simp
theorem splitC_no {c : UInt8} {l : List UInt8} (h : c ∉ l) : splitC c l = [l] := by
  induction l with
  | nil => rfl
  | cons x r ih =>
    simp only [List.mem_cons, not_or] at h
    rw [splitC, if_neg (fun e => h.1 e.symm), ih h.2]
theorem splitC_app {c : UInt8} {a : List UInt8} (h : c ∉ a) (r : List UInt8) : splitC c (a ++ c :: r) = a :: splitC c r := by
  induction a with
  | nil => rw [List.nil_append, splitC, if_pos rfl]
  | cons x a ih =>
    simp only [List.mem_cons, not_or] at h
    rw [List.cons_append, splitC, if_neg (fun e => h.1 e.symm), ih h.2]
theorem not_mem_idx (c : UInt8) (l : List UInt8) : c ∉ l.take (l.idxOf c) := by
  induction l with
  | nil => simp
  | cons x r ih =>
    rw [List.idxOf_cons]
    by_cases h : x = c
    · simp [h]
    · rw [show (x == c) = false by simpa using h, cond_false, List.take_succ_cons]
      simp only [List.mem_cons, not_or]
      exact ⟨fun e => h e.symm, ih⟩
theorem idx_split {c : UInt8} {l : List UInt8} (h : c ∈ l) : c ∉ l.take (l.idxOf c) ∧ l = l.take (l.idxOf c) ++ c :: l.drop (l.idxOf c + 1) ∧ l.idxOf c < l.length := by
  have hlt := List.idxOf_lt_length_of_mem h
  refine ⟨not_mem_idx c l, ?_, hlt⟩
  · conv => lhs; rw [← List.take_append_drop (l.idxOf c) l, List.drop_eq_getElem_cons hlt]
    rw [List.getElem_idxOf hlt]
theorem splitC_ix {c : UInt8} {l : List UInt8} (h : c ∈ l) : splitC c l = l.take (l.idxOf c) :: splitC c (l.drop (l.idxOf c + 1)) := by
  obtain ⟨h1, h2, _⟩ := idx_split h
  conv => lhs; rw [h2]
  exact splitC_app h1 _
def strLen : Value → Nat
  | .string b => b.size
  | _ => 0

end Go.Proofs.YteoljiclmhmbnaaDoor.Tx
