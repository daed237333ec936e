/-
  The walk of (*spec.kTree).along.
-/
import Derived.Test.YtjifoimkjgepcaaXe
set_option linter.unusedVariables false
set_option linter.unusedSimpArgs false
namespace Go.Proofs.Ytjifoimkjgepcaa.Flt
open Go.RowKit Go.Proofs.Ytjifoimkjgepcaa.K Go.Proofs.Ytjifoimkjgepcaa.Fx Go.Proofs.YtjifoimkjgepcaaW.PrintWords

/-- Where an edge leads, or nowhere. -/
def ptrAt (es : List (ByteArray × Nat)) : Option Nat → Value
  | some j => .pointer ((es[j]?).map fun x => ⟨x.2, 0, none⟩)
  | none => .pointer none
set_option maxHeartbeats 1000000 in
set_option maxRecDepth 100000 in
theorem along_any (x : Nd) (s : ByteArray) (w : World) (h : KFan w x) :
    Calls Try.prog 91 #[.pointer (some ⟨x.b, 0, none⟩), .string s] w fun e w' => e = .returned (ptrAt x.es (ixN s (x.es.map (·.1)))) ∧ w' = w := by
  obtain ⟨hmx, A, c, hc, hF⟩ := h
  have hkm : x.es.length ≤ 9223372036854775807 := by simpa [maxLen] using hmx
  have HF := Lib.hid hF
  have hlen : (x.es.map (·.1)).length = x.es.length := by simp
  have HL := Lib.hid hlen
  clear hF hlen hmx
  go_enter Try.func91, Try.ntmps91
  go_wp2_with fail
  go_loopw [5] (fun i wr => ∃ k : Nat, k ≤ x.es.length ∧ i = .int .i64 k ∧ Hid (ixN s (x.es.map (·.1)) = (ixN s ((x.es.map (·.1)).drop k)).map (· + k)) ∧ wr = w) (fun i _ => x.es.length - (intOf i).toNat)
  case atStart => exact ⟨0, Nat.zero_le _, rfl, Lib.hid (by simp), rfl⟩
  case round =>
    obtain ⟨k, hk, rfl, HIX, rfl⟩ := hrel
    by_cases hlt : k < x.es.length
    · obtain ⟨g, rfl, h1, h2⟩ := HF.out k hlt
      have hlt' : (k : Int) < (x.es.length : Int) := by omega
      obtain ⟨n, hn⟩ : ∃ n, n = x.es[k].1 := ⟨_, rfl⟩
      obtain ⟨ch, hch⟩ : ∃ ch, ch = x.es[k].2 := ⟨_, rfl⟩
      rw [← hn, ← hch] at h2
      rw [← hch] at h1
      have HN := Lib.hid hn
      have HCH := Lib.hid hch
      clear hn hch
      obtain ⟨Z1, hZ1⟩ : ∃ Z : Bool, (n.toList == [0]) = Z := ⟨_, rfl⟩
      obtain ⟨Z2, hZ2⟩ : ∃ Z : Bool, (n.toList == s.toList) = Z := ⟨_, rfl⟩
      have HZ1 := Lib.hid hZ1
      have HZ2 := Lib.hid hZ2
      have hyes : Hid ((Z1 || Z2) = true → ptrAt x.es (ixN s (x.es.map (·.1))) = .pointer (some ⟨ch, 0, none⟩)) := Lib.hid (fun hz => by
        have hix := HIX.out
        rw [List.drop_eq_getElem_cons (by rw [HL.out]; exact hlt), ixN, if_pos (by simp only [List.getElem_map]; unfold hit; rw [← HN.out, HZ1.out, HZ2.out]; exact hz)] at hix
        rw [hix]
        simp only [Option.map_some, Nat.zero_add, ptrAt]
        rw [List.getElem?_eq_getElem hlt, HCH.out]
        rfl)
      cases Z1
      · cases Z2
        · go_wp2_with fail
          refine ⟨⟨k + 1, by omega, by go_num, Lib.hid (ixN_no (by rw [HL.out]; exact hlt) HIX.out ?_), trivial⟩, by simp [intOf]; omega⟩
          simp only [List.getElem_map]
          unfold hit
          rw [← HN.out, HZ1.out, HZ2.out]
          rfl
        · go_wp2_with fail
          go_ret
          exact ⟨congrArg Ending.returned (hyes.out rfl).symm, rfl⟩
      · go_wp2_with fail
        go_ret
        exact ⟨congrArg Ending.returned (hyes.out rfl).symm, rfl⟩
    · obtain rfl : k = x.es.length := by omega
      have hend : ixN s (x.es.map (·.1)) = none := by
        rw [HIX.out, List.drop_eq_nil_of_le (by rw [HL.out]; omega)]
        rfl
      have HE := Lib.hid hend
      clear hend
      go_wp2_with fail
      go_ret
      exact ⟨by rw [HE.out]; rfl, rfl⟩
end Go.Proofs.Ytjifoimkjgepcaa.Flt
