/-
  A text whose data come in pieces, of whatever size, has the sentences that it has at once: FnScanPieces returns true for every input that can be read.
  Conditions: none but those of the row.
-/
import Derived.Test.YtaniafohcaiedaaDoorPd
import Derived.Test.YtaniafohcaiedaaDoorSj
import Derived.Test.YtaniafohcaiedaaDoorOpen
import Derived.Test.YtaniafohcaiedaaDoorTie
import Derived.Test.YtaniafohcaiedaaDoorCards
import Derived.LaidMore
import Derived.Lay
import Derived.SevenTiedAt
import Derived.Stop.Joined
import Derived.Handed
import Derived.WalkKit
import Derived.ProofKit
import Derived.OpenShut
import Derived.ShutString
import Derived.ChangeOld
import Derived.Below
import Derived.SizedLaws
set_option linter.unusedVariables false
set_option linter.unusedSimpArgs false
namespace Go.Proofs.YtaniafohcaiedaaDoor
open Go.ChangeShapes Go.WideShapes Go.ChangeAt Go.RowKit
open Go.ChangeMaps (open_string shut_string)
open Go.Proofs.YtaniafohcaiedaaDoor.K Go.Proofs.YtaniafohcaiedaaDoorW.PrintWords

namespace FnScanPieces
theorem own : ownKnob Tryd.prog.godebug = none := by kernel_rfl
theorem laidOut : laidOutB Tryd.prog = true := by kernel_rfl
set_option maxRecDepth 100000 in
theorem lifted (os : Os) (started : os.Started) (H : Type) (enc : TypeId × Value → H) :
    ReturnsInHanded {} Tryd.checked os 10 .any (fun w args => (Rows.fnScanPiecesSpec.pre enc Tryd.prog Tryd.f10 Rows.fnScanPiecesRow.domain false w args ∧ laidMetH Tryd.prog Rows.fnScanPiecesRow.laid w) ∧ sizedMet enc Tryd.prog Tryd.f10 (OpenSpec.ofChange Rows.fnScanPiecesSpec) false w args) (Rows.fnScanPiecesSpec.post enc Tryd.prog Tryd.f10 false true false false) := by
  refine returnsInHanded_of_change_and (C := Tryd.checked) (X := fun w _ => laidMetH Tryd.prog Rows.fnScanPiecesRow.laid w) (fun _ _ _ hh h => h.of_heap hh) own started (by kernel_rfl) Tryd.func10
    (ChangeSpec.witness_shaped (enc := enc) (C := Tryd.checked) (os := os) (X := fun w _ => laidMetH Tryd.prog Rows.fnScanPiecesRow.laid w) false (World.laidAll Tryd.prog os Rows.fnScanPiecesRow.laid) #[.agg #[.slice none 0 0, .slice none 0 0, .bool false, .bool false, .int .i64 0], .string ByteArray.empty, .slice none 0 0] 8 (World.laidAll_os _ _ _)
      (World.shaped_of_ZipB (by kernel_rfl) (by kernel_rfl)) (by kernel_rfl) (by kernel_rfl) (by kernel_rfl)
      (by rw [MakeChecks.laidMetH_plain _ _ _ (by kernel_rfl)]; exact laidMet_laidAll _ (by kernel_rfl) (by kernel_rfl))) ?_
  intro W base args ds gs before hval0 hW hcnd hsz0 hL _
  have hsz : (DataW.weightsEach Tryd.prog (Tryd.f10.params.toList ++ Rows.fnScanPiecesSpec.plain.varTypes Tryd.prog) (ds ++ gs)).all (· ≤ reachBytes) = true := hsz0
  have hval : ∀ (j : Nat) t v, Tryd.f10.params[j]? = some t → args[j]? = some v → Value.okWide Tryd.prog W .any base t v := hval0
  have hW' := hW
  obtain ⟨p, q, hA0, hV, rfl, hfz, hnd⟩ := hW
  have hA : DataW.TrodAll enc Tryd.prog W 0 (fun _ => true) true Tryd.f10.params.toList args.toList ds p := hA0
  rw [Tryd.params10] at hA hval
  rw [Tryd.params10] at hsz
  obtain ⟨v0, vs0, d0, ds0, p0, q0, hargs, rfl, rfl, h0, r0⟩ := trodAll_cons hA
  obtain ⟨v1, vs1, d1, ds1, p1, q1, rfl, rfl, rfl, h1, r1⟩ := trodAll_cons r0
  obtain ⟨v2, vs2, d2, ds2, p2, q2, rfl, rfl, rfl, h2, r2⟩ := trodAll_cons r1
  obtain ⟨rfl, rfl, rfl⟩ := trodAll_nil r2
  obtain rfl : args = #[v0, v1, v2] := by cases args; simp_all
  obtain ⟨rfl, rfl⟩ := trodVars_none hV
  have lt0 : ∀ x ∈ p0, x.block < W.heap.size := by obtain ⟨m, hm⟩ := h0; exact DataW.trod_lt m _ _ _ hm
  obtain ⟨A_s, B_s, cd_s, cf_s, sk_s, db_s, most_s, dl_s, fl_s, rfl, hD_s, hF_s, w_s⟩ := Sn.open_spl (okWide_struct Tryd.underlying50 (hval 0 50 v0 rfl rfl)) h0
  obtain ⟨text, rfl, rfl, rfl, y0_text⟩ := open_string Tryd.underlying9 (hval 1 9 v1 rfl rfl) h1
  have y_text : text.size ≤ 140737488351232 := by
    have z := sized_string hsz (j := 1) (t := 9) rfl rfl
    rw [Array.length_toList] at z
    exact z
  have lt2 : ∀ x ∈ p2, x.block < W.heap.size := by obtain ⟨m, hm⟩ := h2; exact DataW.trod_lt m _ _ _ hm
  obtain ⟨A_sizes, c_sizes, sizes, rfl, hc_sizes, hC_sizes, V_sizes⟩ := open_slice_arg (q := 0) (Opens.slice Tryd.underlying25 (by kernel_rfl) (Opens.int Tryd.underlying5) 0) (okWide_slice Tryd.underlying25 (hval 2 25 v2 rfl rfl)) h2
  clear hA0 hval0 hsz0 hsz
  refine (Sn.pieces_walk A_s B_s cd_s cf_s sk_s db_s most_s dl_s fl_s text A_sizes c_sizes sizes (Nat.le_trans y_text (by decide)) W hD_s hF_s (Sn.tabs_pieces hL) hC_sizes V_sizes).mono fun e W' ⟨he, bel⟩ => ?_
  subst he
  exact ⟨_, rfl, _, _, _, [], _, [], hW', trodAll_mk1 (shut_bool Tryd.underlying4 _), (trodAll_cons_mk (Below.trod laidOut (by kernel_rfl) (of_decide_eq_true (by kernel_rfl)) h0 bel lt0) (trodAll_cons_mk (shut_string Tryd.underlying9 y0_text) (trodAll_cons_mk (Below.trod laidOut (by kernel_rfl) (of_decide_eq_true (by kernel_rfl)) h2 bel lt2) trodAll_mk0))), rfl, bel.frame _, fun h => by cases h⟩

theorem over : Rows.fnScanPiecesRow.holds Tryd.pinned (OpenSpec.ofChange Rows.fnScanPiecesSpec) :=
  OpenClaim.holds_of_wide 10 Tryd.f10 rfl rfl rfl rfl rfl rfl rfl ⟨rfl, rfl, rfl, rfl, rfl⟩ rfl rfl rfl rfl rfl (by kernel_rfl) Tryd.func10 (by kernel_rfl)
    (of_decide_eq_true (by kernel_rfl)) (by unfold Func.isWrapper; first | (rw [if_pos (by decide +kernel)]; kernel_rfl) | (rw [if_neg (by decide +kernel)]; exact ⟨rfl, rfl⟩))
    (fun os started H enc _ => lifted os started H enc)
end FnScanPieces
theorem fnScanPieces_holds : Rows.FnScanPiecesSaid := FnScanPieces.over
theorem fnScanPieces_card : Rows.FnScanPiecesCardSaid :=
  Claim7.holds_tied_plain_at .later [] [.data, .listed, .pinned] true Rows.fnScanPiecesCard.stood.harness true FnScanPieces.over (fun _ h => by cases h) (by kernel_rfl) (fun _ h => by cases h) fnScanPieces_row_tie rfl ⟨rfl, rfl⟩ (by kernel_rfl) rfl
    (fun f fn hf hfn => by
      obtain rfl : f = 10 := Option.some.inj ((show Tryd.prog.funcNamed "pub-kaeriten/laws.FnScanPieces" = some 10 by kernel_rfl).symm.trans hf) |>.symm
      obtain rfl : fn = Tryd.f10 := (Option.some.inj (Tryd.func10.symm.trans hfn)).symm
      exact ⟨by kernel_rfl, fun j t ht => by
        rw [Tryd.params10] at ht
        have hm : t ∈ ([50, 9, 25] : List Nat) := by simpa using Array.mem_of_getElem? ht
        have hall : (([50, 9, 25] : List Nat).all fun u => !Tryd.prog.wantsStandIn u) = true := by kernel_rfl
        exact (show Tryd.prog.wantsStandIn t = false by simpa using List.all_eq_true.1 hall t hm)⟩)
    (by kernel_rfl)
#print axioms fnScanPieces_card
end Go.Proofs.YtaniafohcaiedaaDoor
