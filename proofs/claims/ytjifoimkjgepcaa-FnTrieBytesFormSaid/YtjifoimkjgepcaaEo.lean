/-
  The walk of laws.FnTrieBytesForm.
-/
import Derived.Test.YtjifoimkjgepcaaEn
set_option linter.unusedVariables false
set_option linter.unusedSimpArgs false
namespace Go.Proofs.Ytjifoimkjgepcaa.Da
open Go.RowKit Go.ChangeShapes Go.Proofs.Ytjifoimkjgepcaa.K Go.Proofs.Ytjifoimkjgepcaa.Z Go.Proofs.YtjifoimkjgepcaaW.PrintWords

theorem leB_get (v : Int) (n k : Nat) (h : k < n) : (nums .u8 (leB v n))[k]? = some (.int .u8 (IntKind.u64.wrap v / 2 ^ (8 * k) % 256)) := by
  simp [nums, leB, h]
/-- The digits above a place. -/
def hiD (n k : Nat) : Nat := n / 2 ^ (8 * k)
theorem hiD_step (n k : Nat) : hiD n k = hiD n (k + 1) * 256 + hiD n k % 256 := by
  unfold hiD
  rw [show 8 * (k + 1) = 8 * k + 8 by omega, Nat.pow_add, ← Nat.div_div_eq_div_mul]
  have := Nat.div_add_mod (n / 2 ^ (8 * k)) 256
  show _ = n / 2 ^ (8 * k) / 256 * 256 + _
  omega
theorem hiD_le (n k : Nat) : hiD n k ≤ n := Nat.div_le_self _ _
theorem hiD_eight {n : Nat} (h : n ≤ 536870918) : hiD n 8 = 0 := by
  unfold hiD
  apply Nat.div_eq_of_lt
  have : (2 : Nat) ^ (8 * 8) = 18446744073709551616 := by decide
  omega
theorem hiD_or {n k : Nat} (h : n ≤ 536870918) : bits .or .i64 ((hiD n (k + 1) : Int) * 256) ((hiD n k % 256 : Nat) : Int) = (hiD n k : Int) := by
  have h1 := hiD_step n k
  have h2 := hiD_le n k
  have h3 := hiD_le n (k + 1)
  have h4 := Nat.mod_lt (hiD n k) (by decide : 0 < 256)
  rw [bits_join .i64 62 (by decide) (fun m h0 h1 => IntWalk.i64_in _ (by omega)) 8 _ _ (by omega) (by omega) (by omega) (by omega) (by omega) (by omega)]
  omega
theorem byte_at8 {n k : Nat} (h : n ≤ 536870918) (hk : k < 8) : (nums .u8 (leB n 8))[k]? = some (.int .u8 ((hiD n k % 256 : Nat) : Int)) := by
  rw [leB_get _ _ _ hk]
  have e : IntKind.u64.wrap (n : Int) = (n : Int) := by rw [IntKind.wrap_u64]; omega
  rw [e]
  unfold hiD
  congr 3

set_option maxHeartbeats 2000000 in
set_option maxRecDepth 100000 in
theorem trieForm_walk (Ak Ai : Option Addr) (ck ci : Nat) (keys : List ByteArray) (ids : List Int) (w : World) (hkC : Kd.string.C w Ak keys.length keys) (hkc : keys.length ≤ ck) (hiC : (Kd.int .i64).C w Ai ids.length ids) :
    Calls Try.prog 11 #[.slice Ak keys.length ck, .slice Ai ids.length ci] w fun e w' => e = .returned (.bool true) ∧ Below w.heap.size w w' := by
  have HKC := Lib.hid hkC
  have HIC := Lib.hid hiC
  have HKc := Lib.hid hkc
  clear hkC hiC hkc
  go_enter Try.func11, Try.ntmps11
  go_wp2_with fail
  refine (zzFits3_any Ak ck keys w HKC.out).mono ?_
  rintro e w1 ⟨b0, rfl, hb, hw⟩
  have HFT0 := Lib.hid hb
  have HL1 := Lib.hid hw
  clear hb hw
  cases b0
  · go_wp2
    go_ret
    exact ⟨rfl, HL1.out⟩
  have HFT := Lib.hid (HFT0.out (by trivial))
  by_cases hbig1 : 2147483647 < (ids.length : Int)
  · go_wp2
    go_ret
    exact ⟨rfl, HL1.out⟩
  have hkl := HFT.out.1
  go_wp2_with fail
  refine (few_one Ak ck keys w1 (Kd.C_below HKC.out HL1.out) HKc.out HFT.out).mono ?_
  rintro e w2 ⟨b3, rfl, hb, hw⟩
  have HS := Lib.hid hb
  have HL2 := Lib.hid (HL1.out.trans (hw.mono HL1.out.size))
  clear hb hw
  cases b3
  · go_wp2_with fail
    refine (builds_any w2).mono ?_
    rintro e wf ⟨rfl, hwf⟩
    have HLf := Lib.hid (HL2.out.trans (hwf.mono HL2.out.size))
    clear hwf
    go_wp2_with fail
    go_ret
    exact ⟨rfl, HLf.out⟩
  go_wp2_with fail
  refine (ordered_any Ak ck keys false w2 (Kd.C_below HKC.out HL2.out) HFT.out).mono ?_
  rintro e w3 ⟨b4, rfl, hb, hw⟩
  have HO := Lib.hid hb
  have HL3 := Lib.hid (HL2.out.trans (hw.mono HL2.out.size))
  clear hb hw
  cases b4
  · go_wp2_with fail
    refine (builds_any w3).mono ?_
    rintro e wf ⟨rfl, hwf⟩
    have HLf := Lib.hid (HL3.out.trans (hwf.mono HL3.out.size))
    clear hwf
    go_wp2_with fail
    go_ret
    exact ⟨rfl, HLf.out⟩
  go_wp2_with fail
  refine (goodIDs_any Ai ci ids keys.length w3 (Kd.C_below HIC.out HL3.out) hkl).mono ?_
  rintro e wq ⟨b5, rfl, hb, rfl⟩
  have HG := Lib.hid hb
  clear hb
  cases b5
  · go_wp2_with fail
    refine (builds_any wq).mono ?_
    rintro e wf ⟨rfl, hwf⟩
    have HLf := Lib.hid (HL3.out.trans (hwf.mono HL3.out.size))
    clear hwf
    go_wp2_with fail
    go_ret
    exact ⟨rfl, HLf.out⟩
  have HK := Lib.hid (keys_of (HO.out.1 (by trivial)) (HG.out (by trivial)).1 (HG.out (by trivial)).2 (HS.out (by trivial)))
  go_wp2_with fail
  refine (trieBytes_any Ak Ai ck ci keys ids wq HK.out (Kd.C_below HKC.out HL3.out) (Kd.C_below HIC.out HL3.out)).mono ?_
  rintro e wt ⟨n, zs, g, cap, rfl, hn0, hn, hcell, hb⟩
  have HLt := Lib.hid (HL3.out.trans (hb.mono HL3.out.size))
  have HCE := Lib.hid hcell
  clear hb hcell zs
  obtain ⟨L, hL⟩ : ∃ L, 8 + 8 * n = L := ⟨_, rfl⟩
  rw [hL]
  have hL8 : 8 ≤ L := by omega
  go_wp2_with fail
  obtain ⟨ad, had⟩ : ∃ ad : Addr, ad = ⟨g, 0, none⟩ := ⟨_, rfl⟩
  have HCA : Hid (∀ j, j < 8 → wt.cell? (ad.add j) = some (.int .u8 ((hiD n j % 256 : Nat) : Int))) := Lib.hid fun j hj => by
    rw [had, add_plain]
    try rw [Nat.zero_add]
    exact HCE.out j _ (byte_at8 hn hj)
  rw [← had]
  clear had
  go_loopw [7, 8] (fun nv i wr => ∃ k : Nat, k ≤ 8 ∧ i = .int .i64 ((k : Int) - 1) ∧ nv = .int .i64 (hiD n k : Nat) ∧ wt = wr) (fun _ i _ => (intOf i + 1).toNat)
  case atStart => exact ⟨8, Nat.le_refl _, rfl, by rw [hiD_eight hn]; rfl, rfl⟩
  case round =>
    obtain ⟨k, hk, rfl, rfl, hw⟩ := hrel
    rcases k with _ | m
    · have h0 : hiD n 0 = n := by simp [hiD]
      rw [h0]
      have hz : (((0 : Nat) : Int) - 1) = -1 := rfl
      rw [hz]
      go_wp2
      go_ret
      exact ⟨by first | rfl | (simp; done) | (simp; omega), by rw [← hw]; exact HLt.out⟩
    · have hc := HCA.out m (by omega)
      rw [hw] at hc
      have hor := hiD_or (n := n) (k := m) hn
      have hle := hiD_le n (m + 1)
      have hlt2 := Nat.mod_lt (hiD n m) (by decide : 0 < 256)
      obtain ⟨x, hx⟩ : ∃ x, hiD n (m + 1) = x := ⟨_, rfl⟩
      obtain ⟨y, hy⟩ : ∃ y, hiD n m % 256 = y := ⟨_, rfl⟩
      obtain ⟨z, hz⟩ : ∃ z, hiD n m = z := ⟨_, rfl⟩
      rw [hx] at hor hle ⊢
      rw [hy] at hor hlt2 hc
      rw [hz] at hor
      have HZ := Lib.hid hz
      have hi : (((m + 1 : Nat) : Int) - 1) = (m : Int) := by omega
      rw [hi]
      have hm8 : m < 8 := by omega
      clear hx hy hz hi
      go_wp2
      exact ⟨⟨m, by omega, rfl, by rw [HZ.out], hw⟩, by simp [intOf]⟩
end Go.Proofs.Ytjifoimkjgepcaa.Da
