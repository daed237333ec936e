/-
  A splitter that can be read as data is of its kind.
-/
import Derived.Test.YtaniafohcaiedaaDoorSi
import Derived.Test.YtaniafohcaiedaaDoorOpen
import Derived.WideShapes
set_option linter.unusedVariables false
set_option linter.unusedSimpArgs false
namespace Go.Proofs.YtaniafohcaiedaaDoor.Sn
open Go.RowKit Go.Proofs.YtaniafohcaiedaaDoor.K Go.Proofs.YtaniafohcaiedaaDoorW.PrintWords

set_option maxRecDepth 20000 in
theorem opens_spl {w : World} : ∃ V : (List Int × List Int × Bool × Bool × Int) → Prop, (∀ x, V x → (Lit.int .i64 x.2.2.2.2).wf = true) ∧ Opens Tryd.prog w 50 (Kd.pair (Kd.slice 0 (Kd.int .i32)) (Kd.pair (Kd.slice 0 (Kd.int .i32)) (Kd.pair Kd.bool (Kd.pair Kd.bool (Kd.int .i64))))) V := by
  have hr : Opens Tryd.prog w 21 (Kd.int .i32) (fun n => (Lit.int .i32 n).wf = true) := Opens.int Tryd.underlying21
  have hl : Opens Tryd.prog w 46 (Kd.slice 0 (Kd.int .i32)) (fun xs => ∀ x ∈ xs, (Lit.int .i32 x).wf = true) := Opens.slice Tryd.underlying46 (by kernel_rfl) hr 0
  have hb : Opens Tryd.prog w 4 Kd.bool (fun _ => True) := Opens.bool Tryd.underlying4
  have hi : Opens Tryd.prog w 3 (Kd.int .i64) (fun n => (Lit.int .i64 n).wf = true) := Opens.int Tryd.underlying3
  obtain ⟨fs, hfs⟩ : ∃ fs, Tryd.prog.underlying 50 = some (.struct fs) := ⟨_, Tryd.underlying50⟩
  have hl5 : ∃ f0 f1 f2 f3 f4 : Field, fs.toList = [f0, f1, f2, f3, f4] ∧ f0.offset = 0 ∧ f0.type = 46 ∧ f1.offset = 1 ∧ f1.type = 46 ∧ f2.offset = 2 ∧ f2.type = 4 ∧ f3.offset = 3 ∧ f3.type = 4 ∧ f4.offset = 4 ∧ f4.type = 3 := by
    have h := Tryd.underlying50
    rw [hfs] at h
    simp only [Option.some.injEq, TypeDesc.struct.injEq] at h
    subst h
    exact ⟨_, _, _, _, _, rfl, rfl, rfl, rfl, rfl, rfl, rfl, rfl, rfl, rfl, rfl⟩
  obtain ⟨f0, f1, f2, f3, f4, hl5, o0, t0, o1, t1, o2, t2, o3, t3, o4, t4⟩ := hl5
  have cl : Tryd.prog.cellsOf 46 = 1 := by kernel_rfl
  have cb : Tryd.prog.cellsOf 4 = 1 := by kernel_rfl
  have ci : Tryd.prog.cellsOf 3 = 1 := by kernel_rfl
  have k4 := @OpensL.one _ Tryd.prog w f4 4 (Kd.int .i64) _ o4 (by rw [t4]; exact ci) (by rw [t4]; exact @hi)
  have k3 := @OpensL.cons _ _ Tryd.prog w f3 [f4] 3 Kd.bool (Kd.int .i64) _ _ o3 (by rw [t3]; exact cb) (by rw [t3]; exact @hb) @k4
  have k2 := @OpensL.cons _ _ Tryd.prog w f2 [f3, f4] 2 Kd.bool _ _ _ o2 (by rw [t2]; exact cb) (by rw [t2]; exact @hb) @k3
  have k1 := @OpensL.cons _ _ Tryd.prog w f1 [f2, f3, f4] 1 (Kd.slice 0 (Kd.int .i32)) _ _ _ o1 (by rw [t1]; exact cl) (by rw [t1]; exact @hl) @k2
  have k0 := @OpensL.cons _ _ Tryd.prog w f0 [f1, f2, f3, f4] 0 (Kd.slice 0 (Kd.int .i32)) _ _ _ o0 (by rw [t0]; exact cl) (by rw [t0]; exact @hl) @k1
  rw [← hl5] at k0
  have h := @Opens.struct _ _ Tryd.prog w 50 fs _ _ hfs (by kernel_rfl) @k0 (fun x : (List Int × List Int × Bool × Bool × Int) => x) (fun x => x) (fun _ => rfl)
  exact ⟨_, fun x hx => hx.2.2.2.2, @h⟩

theorem open_spl {w : World} {H : Type} {enc : TypeId × Value → H} {base : Nat} {spare : Nat → Bool} {held : Bool} {v : Value} {D : DataW H} {p : List MemPlace}
    (hv : ∃ cs, v = .agg cs ∧ cs.size = Tryd.prog.cellsOf 50) (h : DataW.Trod enc Tryd.prog w base spare held 50 v D p) :
    ∃ (A B : Option Addr) (cd cf : Nat) (sk db : Bool) (most : Int) (dl fl : List Int), v = splV A B dl.length cd fl.length cf sk db most ∧ (Kd.int .i32).C w A dl.length dl ∧ (Kd.int .i32).C w B fl.length fl ∧ (Lit.int .i64 most).wf = true := by
  obtain ⟨cs, rfl, _⟩ := hv
  obtain ⟨fuel, hf⟩ := h
  obtain ⟨V, hV, ho⟩ := opens_spl (w := w)
  obtain ⟨⟨dl, fl, sk, db, most⟩, hk, hw⟩ := ho enc base spare held fuel _ _ hf
  obtain ⟨_, _, he, ⟨A, cd, rfl, _, hC1⟩, _, _, rfl, ⟨B, cf, rfl, _, hC2⟩, _, _, rfl, rfl, _, _, rfl, rfl, rfl⟩ := hk
  refine ⟨A, B, cd, cf, sk, db, most, dl, fl, ?_, hC1, hC2, hV _ hw⟩
  have hcs : cs.toList = [.slice A dl.length cd, .slice B fl.length cf, .bool sk, .bool db, .int .i64 most] := he
  show Value.agg cs = Value.agg _
  congr 1
  apply Array.ext'
  rw [hcs]
end Go.Proofs.YtaniafohcaiedaaDoor.Sn
