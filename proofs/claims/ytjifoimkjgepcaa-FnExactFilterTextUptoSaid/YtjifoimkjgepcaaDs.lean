/-
  The walks of setBase and setCheck.
-/
import Derived.Test.YtjifoimkjgepcaaDx
set_option linter.unusedVariables false
set_option linter.unusedSimpArgs false
namespace Go.Proofs.Ytjifoimkjgepcaa.Da
open Go.RowKit Go.Proofs.Ytjifoimkjgepcaa.K Go.Proofs.YtjifoimkjgepcaaW.PrintWords

/-- Behind growing no free cell has the same one ahead and behind. -/
theorem grown_ne {A : DA} {M q : Nat} (h : Inv A M) (hq : Fr A q) : (grown A).b q ≠ (grown A).c q := by
  obtain ⟨f, hf⟩ := h.first
  obtain ⟨l, hl⟩ := h.last
  obtain ⟨r, hr⟩ := h.prev hq
  obtain ⟨s, hs⟩ := h.next hq
  have ep := (h.ring _ _ hr).2
  have es := (h.ring _ _ hs).1
  have hqn := fr_lt hq
  have hrn := fr_lt hr.1
  have hsn := fr_lt hs.2.1
  have hfq := hf.2 q hq
  have hql := hl.2 q hq
  have hb := h.big
  rw [grown_b h hf hl, grown_c h hf hl]
  by_cases h1 : q = f
  · rw [if_pos h1]
    by_cases h2 : q = l
    · rw [if_pos h2]; omega
    · rw [if_neg h2, if_pos hqn, es]; omega
  · rw [if_neg h1, if_pos hqn, ep]
    by_cases h2 : q = l
    · rw [if_pos h2]; omega
    · rw [if_neg h2, if_pos hqn, es]
      have h3 : r < q := by
        rcases hr.2.2 with ⟨a, _⟩ | ⟨_, b⟩
        · exact a
        · have := b f hf.1; omega
      have h4 : q < s := by
        rcases hs.2.2 with ⟨a, _⟩ | ⟨b, _⟩
        · exact a
        · have := b l hl.1; omega
      omega
/-- The array in which a cell is taken: grown, if few are free. -/
def room (A : DA) (q : Nat) : DA := if A.b q = A.c q then grown A else A
theorem room_inv {A : DA} {M q : Nat} (h : Inv A M) (hq : Fr A q) : Inv (room A q) M ∧ Fr (room A q) q ∧ (room A q).b q ≠ (room A q).c q := by
  unfold room
  split
  · rename_i he
    exact ⟨grown_inv h (few_free h hq he), (grown_fr h q).2 (.inl hq), grown_ne h hq⟩
  · rename_i he
    exact ⟨h, hq, he⟩

set_option maxHeartbeats 1000000 in
set_option maxRecDepth 100000 in
theorem setCheck_any (dp g : Nat) (A : DA) (M q v : Nat) (w : World) (ha : Arr dp g A w) (hi : Inv A M) (hq : Fr A q) (hv31 : v ≤ 536870918) :
    Calls Try.prog 119 #[.pointer (some ⟨dp, 0, none⟩), .int .i64 q, .int .i64 v] w fun e w' => e = .returned (.tuple #[]) ∧ ∃ g', Arr dp g' (take (room A q) q v) w' ∧ (g' = g ∨ w.heap.size ≤ g') ∧ Kp dp g w w' := by
  obtain ⟨A1, hA1⟩ : ∃ A1, A1 = room A q := ⟨_, rfl⟩
  obtain ⟨hi1, hq1, hne1⟩ := room_inv hi hq
  rw [← hA1] at hi1 hq1 hne1 ⊢
  obtain ⟨r, hr⟩ := hi.prev hq
  obtain ⟨s, hs⟩ := hi.next hq
  have er := (hi.ring _ _ hr).2
  have es := (hi.ring _ _ hs).1
  have hsz := hi.size
  have hqn := fr_lt hq
  have hb : w.cell? ⟨g, q * 2, none⟩ = some (.int .i32 (-(r : Int))) := by rw [← er]; exact ha.cb hqn
  have hc : w.cell? ⟨g, q * 2 + 1, none⟩ = some (.int .i32 (-(s : Int))) := by rw [← es]; exact ha.cc hqn
  have hv : w.cell? ⟨dp, 0, none⟩ = some (.slice (some ⟨g, 0, none⟩) A.n A.n) := ha.cv
  have HRM : Hid (A1 = if (-(r : Int)) = -(s : Int) then grown A else A) := Lib.hid (by rw [hA1, room, er, es])
  have HA := Lib.hid ha
  have HN1 := Lib.hid hne1
  clear ha er es hA1 hne1
  go_enter Try.func119, Try.ntmps119
  go_wp2_with fail
  go_quiet (fail)
  go_upto_if 22 with fail
  have A0 : Hid (Arr dp g A (w.drewN nq)) := Lib.hid ⟨HA.out.var, HA.out.arr⟩
  have K0 : Hid (Kp dp g w (w.drewN nq)) := Lib.hid ⟨rfl, rfl, rfl, Nat.le_refl _, fun _ _ _ _ => rfl⟩
  generalize w.drewN nq = w1 at A0 K0 ⊢
  clear hb hc hv
  go_cut [] from 22 to 24 (fun wx => ∃ g1, Hid (Arr dp g1 A1 wx) ∧ Hid (g1 = g ∨ w.heap.size ≤ g1) ∧ Hid (Kp dp g w wx))
  case first =>
    by_cases he : (-(r : Int)) = -(s : Int)
    · have hb : (-(r : Int) == -(s : Int)) = true := by simpa using he
      have hx : A1 = grown A := by rw [HRM.out, if_pos he]
      go_wp2_with fail
      refine (expand_any dp g A M w1 A0.out hi).mono ?_
      rintro e w2 ⟨rfl, g2, h2, hg2, hk2⟩
      have HX := Lib.hid h2
      have HY := Lib.hid hg2
      have HZ := Lib.hid hk2
      clear h2 hg2 hk2 hb he
      go_wp2_with fail
      go_meet
      exact ⟨g2, Lib.hid (by rw [hx]; exact HX.out), Lib.hid (.inr (Nat.le_trans K0.out.size HY.out)), Lib.hid (K0.out.trans HZ.out (.inl rfl))⟩
    · have hb : (-(r : Int) == -(s : Int)) = false := by simpa using he
      have hx : A1 = A := by rw [HRM.out, if_neg he]
      go_wp2_with fail
      go_meet
      exact ⟨g, Lib.hid (by rw [hx]; exact A0.out), Lib.hid (.inl rfl), K0⟩
  case rest =>
    obtain ⟨g1, HA1, HG1, HK1⟩ := hcut
    obtain ⟨wa, rfl⟩ : ∃ wa : World, wa = wc := ⟨_, rfl⟩
    clear A0 K0 HA HRM hr hs hi hq hqn hsz
    obtain ⟨r1, hr⟩ := hi1.prev hq1
    obtain ⟨s1, hs⟩ := hi1.next hq1
    obtain ⟨f1, hf1⟩ := hi1.first
    have er := (hi1.ring _ _ hr).2
    have es := (hi1.ring _ _ hs).1
    have e0 := hi1.c0 _ hf1
    have hsz := hi1.size
    have hqn := fr_lt hq1
    have hrn := fr_lt hr.1
    have hsn := fr_lt hs.2.1
    have hfn := fr_lt hf1.1
    have hq0 := hq1.1
    have hb : wa.cell? ⟨g1, q * 2, none⟩ = some (.int .i32 (-(r1 : Int))) := by rw [← er]; exact HA1.out.cb hqn
    have hc : wa.cell? ⟨g1, q * 2 + 1, none⟩ = some (.int .i32 (-(s1 : Int))) := by rw [← es]; exact HA1.out.cc hqn
    have hc0 : wa.cell? ⟨g1, 1, none⟩ = some (.int .i32 (-(f1 : Int))) := by rw [← e0]; exact HA1.out.cc (i := 0) (by omega)
    have hv : wa.cell? ⟨dp, 0, none⟩ = some (.slice (some ⟨g1, 0, none⟩) A1.n A1.n) := HA1.out.cv
    have HR := Lib.hid er
    have HS := Lib.hid es
    have H0 := Lib.hid e0
    clear er es e0 hr hs hf1
    go_upto_if 50 with fail
    have h0b : wa.frozen? ⟨g1, 1, none⟩ = false := HA1.out.f 1
    obtain ⟨A2, hA2⟩ : ∃ A2 : DA, A2 = { A1 with c := if -(q : Int) = A1.c 0 then upd A1.c 0 (-(s1 : Int)) else A1.c } := ⟨_, rfl⟩
    have HA2 := Lib.hid hA2
    clear hA2
    go_cut [] from 50 to 62 (fun wx => Hid (Arr dp g1 A2 wx) ∧ Hid (Kp dp g w wx))
    case first =>
      by_cases he : -(q : Int) = -(f1 : Int)
      · have hx : (-(q : Int) == -(f1 : Int)) = true := by simpa using he
        go_wp2_with fail
        go_region
        go_wp2_with fail
        go_meet
        refine ⟨Lib.hid ?_, Lib.hid ?_⟩
        · have := HA1.out.set_c (i := 0) (by omega) (-(s1 : Int))
          rw [HA2.out, H0.out, if_pos he]
          exact ⟨this.var, this.arr⟩
        · exact (HK1.out.trans ((Kp.refl dp g1 wa).set (.inr (.inl rfl)) _) HG1.out).drew
      · have hx : (-(q : Int) == -(f1 : Int)) = false := by simpa using he
        go_wp2_with fail
        go_meet
        refine ⟨Lib.hid ?_, HK1⟩
        rw [HA2.out, H0.out, if_neg he]
        exact HA1.out
    case rest =>
      obtain ⟨HB, HK⟩ := hcut
      have n2 : A2.n = A1.n := by rw [HA2.out]
      have hqn2 : q < A2.n := by omega
      have hrn2 : r1 < A2.n := by omega
      have hsn2 : s1 < A2.n := by omega
      have hsz2 : A2.n ≤ 536870918 := by omega
      have b2 : A2.b q = -(r1 : Int) := by rw [HA2.out]; exact HR.out
      have c2 : A2.c q = -(s1 : Int) := by
        rw [HA2.out]
        show (if _ then upd A1.c 0 (-(s1 : Int)) else A1.c) q = _
        split
        · rw [upd_ne _ _ (by omega)]; exact HS.out
        · exact HS.out
      clear hb hc hc0 hv h0b HA1 n2 hqn hrn hsn hsz
      have hv : wc.cell? ⟨dp, 0, none⟩ = some (.slice (some ⟨g1, 0, none⟩) A2.n A2.n) := HB.out.cv
      have hb : wc.cell? ⟨g1, q * 2, none⟩ = some (.int .i32 (-(r1 : Int))) := by rw [← b2]; exact HB.out.cb hqn2
      obtain ⟨x, hx⟩ : ∃ x, wc.cell? ⟨g1, s1 * 2, none⟩ = some (.int .i32 x) := ⟨_, HB.out.cb hsn2⟩
      have hf := HB.out.f (s1 * 2)
      have HB2 := Lib.hid b2
      have HC2 := Lib.hid c2
      clear b2 c2
      go_wp2_with fail
      go_region
      generalize hw3 : World.drew _ = w3
      have A3 : Arr dp g1 { A2 with b := upd A2.b s1 (-(r1 : Int)) } w3 := by
        have := HB.out.set_b hsn2 (-(r1 : Int))
        subst hw3
        exact ⟨this.var, this.arr⟩
      have HK3 : Hid (Kp dp g w w3) := Lib.hid (by subst hw3; exact (HK.out.trans ((Kp.refl dp g1 wc).set (.inr (.inl rfl)) _) HG1.out).drew)
      clear hw3 hv hb hx hf HB HK
      have hv : w3.cell? ⟨dp, 0, none⟩ = some (.slice (some ⟨g1, 0, none⟩) A2.n A2.n) := A3.cv
      have hc : w3.cell? ⟨g1, q * 2 + 1, none⟩ = some (.int .i32 (-(s1 : Int))) := by rw [← HC2.out]; exact A3.cc hqn2
      obtain ⟨x, hx⟩ : ∃ x, w3.cell? ⟨g1, r1 * 2 + 1, none⟩ = some (.int .i32 x) := ⟨_, A3.cc hrn2⟩
      have hf := A3.f (r1 * 2 + 1)
      have HA3 := Lib.hid A3
      clear A3
      go_wp2_with fail
      go_region
      generalize hw4 : World.drew _ = w4
      have A4 : Arr dp g1 { A2 with b := upd A2.b s1 (-(r1 : Int)), c := upd A2.c r1 (-(s1 : Int)) } w4 := by
        have := HA3.out.set_c hrn2 (-(s1 : Int))
        subst hw4
        exact ⟨this.var, this.arr⟩
      have HK4 : Hid (Kp dp g w w4) := Lib.hid (by subst hw4; exact (HK3.out.trans ((Kp.refl dp g1 w3).set (.inr (.inl rfl)) _) HG1.out).drew)
      clear hw4 hv hc hx hf HK3 HA3
      have hv : w4.cell? ⟨dp, 0, none⟩ = some (.slice (some ⟨g1, 0, none⟩) A2.n A2.n) := A4.cv
      obtain ⟨x, hx⟩ : ∃ x, w4.cell? ⟨g1, q * 2 + 1, none⟩ = some (.int .i32 x) := ⟨_, A4.cc hqn2⟩
      have hf := A4.f (q * 2 + 1)
      have HA5 := Lib.hid (A4.set_c hqn2 (v : Int))
      clear A4
      go_wp2
      go_end0
      refine ⟨rfl, g1, ?_, HG1.out, HK4.out.trans ((Kp.refl dp g1 w4).set (.inr (.inl rfl)) _) HG1.out⟩
      have e : take A1 q v = { A2 with b := upd A2.b s1 (-(r1 : Int)), c := upd (upd A2.c r1 (-(s1 : Int))) q (v : Int) } := by
        unfold take
        rw [HA2.out, HR.out, HS.out]
        simp
      rw [e]
      exact HA5.out

set_option maxHeartbeats 1000000 in
set_option maxRecDepth 100000 in
theorem setBase_any (dp g : Nat) (A : DA) (M p B : Nat) (w : World) (ha : Arr dp g A w) (hi : Inv A M) (hp : Us A p) (hB : B ≤ 536870918) :
    Calls Try.prog 118 #[.pointer (some ⟨dp, 0, none⟩), .int .i64 p, .int .i64 B] w fun e w' => e = .returned (.tuple #[]) ∧ Arr dp g (setBase A p B) w' ∧ Kp dp g w w' := by
  have hpn := hp.1
  have hsz := hi.size
  have hv : w.cell? ⟨dp, 0, none⟩ = some (.slice (some ⟨g, 0, none⟩) A.n A.n) := ha.cv
  by_cases h0 : p = 0
  · have HA := Lib.hid ha
    clear ha
    subst h0
    go_enter Try.func118, Try.ntmps118
    go_wp2
    exact bodyPost_ret (v := .tuple #[]) (by simp [results, Try.results118, go_sem]) rfl ⟨rfl, HA.out, Kp.refl _ _ _⟩
  · have hp0 : 0 < p := by omega
    obtain ⟨x, hx⟩ : ∃ x : Nat, A.c p = x := ⟨(A.c p).toNat, by have := hp.2; omega⟩
    have hxb := (hi.rc p hpn).2
    have hxx : x ≤ 2147483647 := by omega
    have hc : w.cell? ⟨g, p * 2 + 1, none⟩ = some (.int .i32 (x : Int)) := by rw [← hx]; exact ha.cc hpn
    obtain ⟨y, hy⟩ : ∃ y, w.cell? ⟨g, p * 2, none⟩ = some (.int .i32 y) := ⟨_, ha.cb hpn⟩
    have hf := ha.f (p * 2)
    have HS := Lib.hid (ha.set_b hpn (B : Int))
    clear ha hx hxb
    go_enter Try.func118, Try.ntmps118
    go_wp2
    go_end0
    refine ⟨rfl, ?_, (Kp.refl dp g w).set (.inr (.inl rfl)) _⟩
    rw [setBase, if_neg h0]
    exact HS.out
end Go.Proofs.Ytjifoimkjgepcaa.Da
