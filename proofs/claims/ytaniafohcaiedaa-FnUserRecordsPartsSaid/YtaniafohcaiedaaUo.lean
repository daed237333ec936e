/-
  A record that can be read as data is of its kind.
-/
import Derived.Test.YtaniafohcaiedaaUv
import Derived.Test.YtaniafohcaiedaaOpen
set_option linter.unusedVariables false
set_option linter.unusedSimpArgs false
namespace Go.Proofs.Ytaniafohcaiedaa.Tx
open Go.RowKit Go.Proofs.Ytaniafohcaiedaa.K Go.Proofs.YtaniafohcaiedaaW.PrintWords

set_option maxRecDepth 20000 in
theorem opens_rec {w : World} : Opens Try.prog w 36 kRec (fun _ => True) := by
  have hs : Opens Try.prog w 9 Kd.string (fun s => s.size ≤ maxLen) := Opens.string Try.underlying9
  have hl : Opens Try.prog w 31 (Kd.slice 9 Kd.string) (fun xs => ∀ x ∈ xs, x.size ≤ maxLen) := Opens.slice Try.underlying31 (by kernel_rfl) hs 9
  obtain ⟨fs, hfs⟩ : ∃ fs, Try.prog.underlying 36 = some (.struct fs) := ⟨_, Try.underlying36⟩
  have hl4 : ∃ f0 f1 f2 f3 : Field, fs.toList = [f0, f1, f2, f3] ∧ f0.offset = 0 ∧ f0.type = 9 ∧ f1.offset = 1 ∧ f1.type = 31 ∧ f2.offset = 2 ∧ f2.type = 31 ∧ f3.offset = 3 ∧ f3.type = 9 := by
    have h := Try.underlying36
    rw [hfs] at h
    simp only [Option.some.injEq, TypeDesc.struct.injEq] at h
    subst h
    exact ⟨_, _, _, _, rfl, rfl, rfl, rfl, rfl, rfl, rfl, rfl, rfl⟩
  obtain ⟨f0, f1, f2, f3, hl4, o0, t0, o1, t1, o2, t2, o3, t3⟩ := hl4
  have c9 : Try.prog.cellsOf 9 = 1 := by kernel_rfl
  have c31 : Try.prog.cellsOf 31 = 1 := by kernel_rfl
  have k3 := @OpensL.one _ Try.prog w f3 3 Kd.string _ o3 (by rw [t3]; exact c9) (by rw [t3]; exact @hs)
  have k2 := @OpensL.cons _ _ Try.prog w f2 [f3] 2 (Kd.slice 9 Kd.string) Kd.string _ _ o2 (by rw [t2]; exact c31) (by rw [t2]; exact @hl) @k3
  have k1 := @OpensL.cons _ _ Try.prog w f1 [f2, f3] 1 (Kd.slice 9 Kd.string) _ _ _ o1 (by rw [t1]; exact c31) (by rw [t1]; exact @hl) @k2
  have k0 := @OpensL.cons _ _ Try.prog w f0 [f1, f2, f3] 0 Kd.string _ _ _ o0 (by rw [t0]; exact c9) (by rw [t0]; exact @hs) @k1
  rw [← hl4] at k0
  have h := @Opens.struct _ _ Try.prog w 36 fs _ _ hfs (by kernel_rfl) @k0 (fun x : Rec => x) (fun x => x) (fun _ => rfl)
  intro H enc base spare held fuel cs x hx
  obtain ⟨y, h1, _⟩ := @h H enc base spare held fuel cs x hx
  exact ⟨y, h1, trivial⟩
end Go.Proofs.Ytaniafohcaiedaa.Tx
