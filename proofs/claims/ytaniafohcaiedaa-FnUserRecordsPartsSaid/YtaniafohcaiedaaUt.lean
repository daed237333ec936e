/-
  The walks of impl.UserRecords, laws.sameRecord, laws.sameRecords and laws.users.
-/
import Derived.Test.YtaniafohcaiedaaUr
import Derived.Test.YtaniafohcaiedaaSameStr
set_option linter.unusedVariables false
set_option linter.unusedSimpArgs false
namespace Go.Proofs.Ytaniafohcaiedaa.Tx
open Go.RowKit Go.Proofs.Ytaniafohcaiedaa.K Go.Proofs.YtaniafohcaiedaaW.PrintWords

theorem fixed_C {α : Type} {d : Kd α} {w0 w : World} {A : Option Addr} {n : Nat} {xs : List α} (h : (Kd.fixed d w0).C w A n xs) (hb : Below w0.heap.size w0 w) : d.C w A n xs :=
  ReadsRow.imp_ (R := (Kd.fixed d w0).K w) (R' := d.K w) h (Below.refl _ _) (fun _ _ hp => d.K_below hb hp)
theorem fix_info (w : World) : (Try.prog.info? 36).map (fun i => (i.zero, i.size, i.bytes)) = some (some (.agg #[.string ⟨#[]⟩, .slice none 0 0, .slice none 0 0, .string ⟨#[]⟩]), (Kd.fixed kRec w).sz, 80) := by
  show _ = some (some (Value.agg #[.string ⟨#[]⟩, .slice none 0 0, .slice none 0 0, .string ⟨#[]⟩]), 4, 80)
  kernel_rfl
theorem rec_K {w : World} {u : Rec} {A1 A2 : Option Addr} {c1 c2 : Nat} (h1 : Kd.string.C w A1 u.2.1.length u.2.1) (l1 : u.2.1.length ≤ c1) (h2 : Kd.string.C w A2 u.2.2.1.length u.2.2.1) (l2 : u.2.2.1.length ≤ c2) :
    kRec.K w u [.string u.1, .slice A1 u.2.1.length c1, .slice A2 u.2.2.1.length c2, .string u.2.2.2] :=
  ⟨[.string u.1], [.slice A1 u.2.1.length c1, .slice A2 u.2.2.1.length c2, .string u.2.2.2], rfl, rfl, [.slice A1 u.2.1.length c1], [.slice A2 u.2.2.1.length c2, .string u.2.2.2], rfl, ⟨A1, c1, rfl, l1, h1⟩, [.slice A2 u.2.2.1.length c2], [.string u.2.2.2], rfl, ⟨A2, c2, rfl, l2, h2⟩, rfl⟩

def UsersRet (l : List UInt8) (w : World) (e : Ending) (w' : World) : Prop :=
  match parse l with
  | some rs => ∃ A c, e = .returned (.tuple #[.slice A rs.length c, .int .i64 0]) ∧ rs.length ≤ c ∧ kRec.C w' A rs.length rs ∧ Below w.heap.size w w'
  | none => e = .returned (.tuple #[.slice none 0 0, .int .i64 1]) ∧ Below w.heap.size w w'

theorem box0 (w : World) (cs : Array Value) (t : TypeId) (o2 : Obj) (j : Nat) : ((w.alloc (.cells cs t)).alloc o2).cell? ⟨w.heap.size, j, none⟩ = cs[j]? := cell_of_heap (heap_old (heap_new w _) _) j
theorem box1 (w : World) (o1 : Obj) (cs : Array Value) (t : TypeId) (j : Nat) : ((w.alloc o1).alloc (.cells cs t)).cell? ⟨w.heap.size + 1, j, none⟩ = cs[j]? := by
  have h := heap_new (w.alloc o1) (.cells cs t)
  rw [size_alloc] at h
  exact cell_of_heap h j
theorem sameStr_true (A B : Option Addr) (c c' : Nat) (xs : List ByteArray) (w : World) (hC : Kd.string.C w A xs.length xs) (hD : Kd.string.C w B xs.length xs) :
    Calls Try.prog 55 #[.slice A xs.length c, .slice B xs.length c'] w fun e w' => e = .returned (.bool true) ∧ Below w.heap.size w w' :=
  (sameStr_any A B c c' xs xs w hC hD).mono fun e w' ⟨he, hb⟩ => ⟨he.trans (by simp), hb⟩
theorem parse_len {l : List UInt8} {rs : List Rec} (h : parse l = some rs) (hn : (rawL l).length ≤ 1099511627776) : rs.length ≤ 1099511627776 := by
  have h1 : rs.length = (texts l).length := by
    unfold parse at h
    generalize texts l = T at h
    clear hn
    induction T generalizing rs with
    | nil => simp at h; subst h; rfl
    | cons x r ih =>
      rw [List.mapM_cons] at h
      cases hx : parse1 x with
      | none => rw [hx] at h; simp at h
      | some y =>
        cases hr : r.mapM parse1 with
        | none => rw [hx, hr] at h; simp at h
        | some ys =>
          rw [hx, hr] at h
          simp at h
          subst h
          rw [List.length_cons, List.length_cons, ih hr]
  rw [h1]
  refine Nat.le_trans (List.length_filter_le _ _) ?_
  rw [List.length_map]
  exact hn

set_option maxHeartbeats 2000000 in
set_option maxRecDepth 5000 in
theorem userRecords_any (l : List UInt8) (w : World) (hl : l.length ≤ 8796093022000) (hn : (rawL l).length ≤ 1099511627776) :
    Calls Try.prog 21 #[.string (ofL l)] w (UsersRet l w) := by
  have HR := Lib.hid (records_any l w hl hn)
  have HPL := Lib.hid (fun rs h => parse_len (l := l) (rs := rs) h hn)
  unfold UsersRet
  unfold RecsRet at HR
  obtain ⟨p, hp⟩ : ∃ p, parse l = p := ⟨_, rfl⟩
  rw [hp] at HR ⊢
  rw [hp] at HPL
  clear hp
  cases p with
  | none =>
    go_enter Try.func21, Try.ntmps21
    go_wp2_with fail
    refine HR.out.mono ?_
    rintro e w1 ⟨a, rfl, hb⟩
    go_wp2
    go_ret2
    exact ⟨rfl, hb⟩
  | some rs =>
    have hrl := HPL.out rs rfl
    go_enter Try.func21, Try.ntmps21
    go_wp2_with fail
    refine HR.out.mono ?_
    rintro e w1 ⟨v, rfl, hR, hb⟩
    obtain ⟨A, c, rfl, hc, hC⟩ := Kd.R_reads hR
    have HC := Lib.hid hC
    have HB := Lib.hid hb
    have hsz1 := hb.size
    have hm := hC.2.1
    clear hR hC hb HR HPL
    go_wp2
    go_loopw [18, 6] (fun i v wr => ∃ k : Nat, k ≤ rs.length ∧ i = .int .i64 k ∧ Hid ((Kd.fixed kRec w1).R 36 wr w1.heap.size (fun _ => True) v (rs.take k)) ∧ Hid (Below w1.heap.size w1 wr)) (fun i _ _ => rs.length - (intOf i).toNat)
    case atStart => exact ⟨0, Nat.zero_le _, rfl, Lib.hid (Kd.R_nil _ _ _ _ _), Lib.hid (Below.refl _ _)⟩
    case round =>
      obtain ⟨k, hk, rfl, hR, hbel⟩ := hrel
      have hszr := hbel.out.size
      by_cases hlt : k < rs.length
      · obtain ⟨ad, A1, c1, A2, c2, rfl, s0, s1, s2, s3, _, _, _, _⟩ := recs_at (Kd.C_below HC.out hbel.out) k hlt
        obtain ⟨_, B1, d1, B2, d2, h, t0, t1, t2, t3, g1, l1, g2, l2⟩ := recs_at HC.out k hlt
        cases h
        have e1 := ((hbel.out.cell (World.block_lt_of_cell? _ _ t1)).trans t1).symm.trans s1
        have e2 := ((hbel.out.cell (World.block_lt_of_cell? _ _ t2)).trans t2).symm.trans s2
        simp only [Option.some.injEq, Value.slice.injEq, true_and] at e1 e2
        obtain ⟨rfl, rfl⟩ := e1
        obtain ⟨rfl, rfl⟩ := e2
        have HK := Lib.hid (rec_K g1 l1 g2 l2)
        have HT := Lib.hid (List.take_succ_eq_append_getElem hlt)
        have htl : (rs.take k).length = k := by rw [List.length_take]; omega
        generalize rs[k] = u at *
        obtain ⟨a, ys, zs, d⟩ := u
        clear t0 t1 t2 t3 g1 g2 l1 l2
        have HTL := Lib.hid htl
        clear htl
        go_wp2_with (at_builtin; refine kapp (w0 := w1) (Kd.fixed kRec w1) w1.heap.size rfl _ _ 33 36 (.agg #[.string ⟨#[]⟩, .slice none 0 0, .slice none 0 0, .string ⟨#[]⟩]) 80 rfl Try.underlying33 (fix_info w1) rfl rec_pos (by decide) _ (rs.take k) (a, ys, zs, d) [.string a, .slice B1 ys.length d1, .slice B2 zs.length d2, .string d] (fun _ => True) (fun _ => False) _ rfl rfl ?hg HK.out (fun _ h => h.elim) (fun _ _ => trivial) (Kd.R_alloc (Kd.R_alloc hR.out _) _) ((hbel.out.alloc hszr _).alloc (by simp; omega) _) (by simp; omega) ?hl ?_)
        case hl => omega
        intro v1 w4 hR4 hB4 hg4 hat4
        have HR4 := Lib.hid hR4
        have HB4 := Lib.hid hB4
        clear hg4 hat4 hR4 hB4
        go_wp2
        exact ⟨⟨k + 1, by omega, by go_num, Lib.hid (by rw [HT.out]; exact HR4.out), HB4⟩, by simp [intOf]; omega⟩
      · obtain rfl : k = rs.length := by omega
        have h := hR.out
        rw [List.take_length] at h
        obtain ⟨A', c', rfl, hl', hC'⟩ := Kd.R_reads h
        have HC' := Lib.hid (fixed_C hC' hbel.out)
        have HBB := Lib.hid (HB.out.trans (hbel.out.mono hsz1))
        clear h hR hC'
        go_wp2
        go_ret2
        exact ⟨A', c', rfl, hl', HC'.out, HBB.out⟩

set_option maxHeartbeats 2000000 in
set_option maxRecDepth 5000 in
theorem sameRecord_eq (u : Rec) (A1 A2 B1 B2 : Option Addr) (c1 c2 d1 d2 : Nat) (w : World) (h1 : Kd.string.C w A1 u.2.1.length u.2.1) (h2 : Kd.string.C w A2 u.2.2.1.length u.2.2.1) (g1 : Kd.string.C w B1 u.2.1.length u.2.1) (g2 : Kd.string.C w B2 u.2.2.1.length u.2.2.1) :
    Calls Try.prog 37 #[recV u A1 A2 c1 c2, recV u B1 B2 d1 d2, .bool true] w fun e w' => e = .returned (.bool true) ∧ Below w.heap.size w w' := by
  obtain ⟨a, xs, ys, d⟩ := u
  have H1 := Lib.hid h1
  have H2 := Lib.hid h2
  have G1 := Lib.hid g1
  have G2 := Lib.hid g2
  clear h1 h2 g1 g2
  have hqa : (a.toList == a.toList) = true := by simp
  have hqd : (d.toList == d.toList) = true := by simp
  have HS1 := Lib.hid (fun W (hC : Kd.string.C W A1 xs.length xs) (hD : Kd.string.C W B1 xs.length xs) => sameStr_true A1 B1 c1 d1 xs W hC hD)
  have HS2 := Lib.hid (fun W (hC : Kd.string.C W A2 ys.length ys) (hD : Kd.string.C W B2 ys.length ys) => sameStr_true A2 B2 c2 d2 ys W hC hD)
  unfold recV
  show Calls _ _ #[.agg #[.string a, .slice A1 xs.length c1, .slice A2 ys.length c2, .string d], .agg #[.string a, .slice B1 xs.length d1, .slice B2 ys.length d2, .string d], .bool true] _ _
  go_enter Try.func37, Try.ntmps37
  go_wp2_with fail
  obtain ⟨o1, ho1⟩ : ∃ o, o = Obj.cells #[.string a, .slice A1 xs.length c1, .slice A2 ys.length c2, .string d] 36 := ⟨_, rfl⟩
  obtain ⟨o2, ho2⟩ : ∃ o, o = Obj.cells #[.string a, .slice B1 xs.length d1, .slice B2 ys.length d2, .string d] 36 := ⟨_, rfl⟩
  rw [← ho1, ← ho2]
  refine (HS1.out _ (Kd.C_alloc (Kd.C_alloc H1.out _) _) (Kd.C_alloc (Kd.C_alloc G1.out _) _)).mono ?_
  rintro e w1 ⟨rfl, hb1⟩
  have c2' : w1.cell? ⟨w.heap.size, 2, none⟩ = some (.slice A2 ys.length c2) := (hb1.cell (p := ⟨w.heap.size, 2, none⟩) (by simp; omega)).trans (by rw [ho1, box0]; rfl)
  have c3' : w1.cell? ⟨w.heap.size, 3, none⟩ = some (.string d) := (hb1.cell (p := ⟨w.heap.size, 3, none⟩) (by simp; omega)).trans (by rw [ho1, box0]; rfl)
  have e2' : w1.cell? ⟨w.heap.size + 1, 2, none⟩ = some (.slice B2 ys.length d2) := (hb1.cell (p := ⟨w.heap.size + 1, 2, none⟩) (by simp)).trans (by rw [ho2, box1]; rfl)
  have e3' : w1.cell? ⟨w.heap.size + 1, 3, none⟩ = some (.string d) := (hb1.cell (p := ⟨w.heap.size + 1, 3, none⟩) (by simp)).trans (by rw [ho2, box1]; rfl)
  have HB1 := Lib.hid ((((Below.refl _ w).alloc (Nat.le_refl _) o1).alloc (by simp) o2).trans (hb1.mono (by simp; omega)))
  have hsz1 := HB1.out.size
  clear hb1 ho1 ho2
  go_wp2_with fail
  refine (HS2.out _ (Kd.C_below H2.out HB1.out) (Kd.C_below G2.out HB1.out)).mono ?_
  rintro e w2 ⟨rfl, hb2⟩
  replace c3' := (hb2.cell (World.block_lt_of_cell? _ _ c3')).trans c3'
  replace e3' := (hb2.cell (World.block_lt_of_cell? _ _ e3')).trans e3'
  have HB2 := Lib.hid (HB1.out.trans (hb2.mono hsz1))
  clear hb2 c2' e2'
  go_wp2
  go_ret
  exact ⟨by simp, HB2.out⟩
end Go.Proofs.Ytaniafohcaiedaa.Tx
