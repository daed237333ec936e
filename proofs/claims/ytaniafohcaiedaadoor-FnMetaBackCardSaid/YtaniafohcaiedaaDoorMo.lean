/-
  A mark that can be read as data is of its kind.
-/
import Derived.Test.YtaniafohcaiedaaDoorMl
import Derived.Test.YtaniafohcaiedaaDoorOpen
set_option linter.unusedVariables false
set_option linter.unusedSimpArgs false
namespace Go.Proofs.YtaniafohcaiedaaDoor.M
open Go.RowKit Go.Proofs.YtaniafohcaiedaaDoor.K Go.Proofs.YtaniafohcaiedaaDoorW.PrintWords

set_option maxRecDepth 20000 in
theorem opens_mark {w : World} : Opens Tryd.prog w 62 kMk (fun _ => True) := by
  have hs : Opens Tryd.prog w 9 Kd.string (fun s => s.size ≤ maxLen) := Opens.string Tryd.underlying9
  have hi := @Opens.int Tryd.prog w 3 .i64 Tryd.underlying3
  obtain ⟨fs, hfs⟩ : ∃ fs, Tryd.prog.underlying 62 = some (.struct fs) := ⟨_, Tryd.underlying62⟩
  have hl2 : ∃ f0 f1 : Field, fs.toList = [f0, f1] ∧ f0.offset = 0 ∧ f0.type = 9 ∧ f1.offset = 1 ∧ f1.type = 3 := by
    have h := Tryd.underlying62
    rw [hfs] at h
    simp only [Option.some.injEq, TypeDesc.struct.injEq] at h
    subst h
    exact ⟨_, _, rfl, rfl, rfl, rfl, rfl⟩
  obtain ⟨f0, f1, hl2, o0, t0, o1, t1⟩ := hl2
  have c9 : Tryd.prog.cellsOf 9 = 1 := by kernel_rfl
  have c3 : Tryd.prog.cellsOf 3 = 1 := by kernel_rfl
  have k1 := @OpensL.one _ Tryd.prog w f1 1 (Kd.int .i64) _ o1 (by rw [t1]; exact c3) (by rw [t1]; exact @hi)
  have k0 := @OpensL.cons _ _ Tryd.prog w f0 [f1] 0 Kd.string _ _ _ o0 (by rw [t0]; exact c9) (by rw [t0]; exact @hs) @k1
  rw [← hl2] at k0
  have h := @Opens.struct _ _ Tryd.prog w 62 fs _ _ hfs (by kernel_rfl) @k0 (fun x : Mk => x) (fun x => x) (fun _ => rfl)
  intro H enc base spare held fuel cs x hx
  obtain ⟨y, h1, _⟩ := @h H enc base spare held fuel cs x hx
  exact ⟨y, h1, trivial⟩
theorem metaBack_int (A : Option Addr) (c : Nat) (l : List Mk) (n : Int) (hw : (Lit.int .u8 n).wf = true) (w : World) (hcap : l.length ≤ c) (hC : kMk.C w A l.length l) :
    Calls Tryd.prog 11 #[.slice A l.length c, .int .u8 n] w fun e w' => e = .returned (.bool true) ∧ Below w.heap.size w w' := by
  have hn : 0 ≤ n ∧ n ≤ 255 := by simpa [Lit.wf, IntKind.min, IntKind.max, IntKind.signed, IntKind.bits] using hw
  obtain ⟨m, rfl⟩ : ∃ m : Nat, n = (m : Int) := ⟨n.toNat, by omega⟩
  exact metaBack_walk A c l m (by omega) w hcap hC
end Go.Proofs.YtaniafohcaiedaaDoor.M
