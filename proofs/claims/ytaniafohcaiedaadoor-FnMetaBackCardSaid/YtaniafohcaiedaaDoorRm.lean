/-
  The walk of readMapStringInt8 where the bytes are those of a map that was written.
-/
import Derived.Test.YtaniafohcaiedaaDoorWm
import Derived.Test.YtaniafohcaiedaaDoorZr

set_option linter.unusedVariables false
set_option linter.unusedSimpArgs false
namespace Go.Proofs.YtaniafohcaiedaaDoor.M
open Go.RowKit Go.Proofs.YtaniafohcaiedaaDoor.K Go.Proofs.YtaniafohcaiedaaDoorW.PrintWords Go.Maps Go.Sort Go.Proofs.YtaniafohcaiedaaDoor.Z Go.Proofs.YtaniafohcaiedaaDoor.Zt

/-- The bytes that lie at a place. -/
def Src (w : World) (ad : Addr) (xs : List Int) : Prop := ∀ j x, (nums .u8 xs)[j]? = some x → w.cell? (ad.add j) = some x
theorem Src.keeps {S : Nat → Prop} {w w' : World} {ad : Addr} {xs : List Int} (h : Src w ad xs) (k : Keeps S w w') (hs : ¬ S ad.block) : Src w' ad xs := by
  intro j x hx
  have h1 := h j x hx
  have hb : (ad.add j).block = ad.block := by unfold Addr.add; split <;> rfl
  have hlt := World.block_lt_of_cell? w _ h1
  have := k.block _ hlt (by rw [hb]; exact hs)
  unfold World.cell? at h1 ⊢
  rw [this]
  exact h1
theorem add_add' (ad : Addr) (i j : Nat) : (ad.add i).add j = ad.add (i + j) := by
  unfold Addr.add
  by_cases hi : i = 0
  · subst hi; simp
  · by_cases hj : j = 0
    · subst hj; simp [hi]
    · have : i + j ≠ 0 := by omega
      simp [hi, hj, this, Nat.add_assoc]
theorem Src.part {w : World} {ad : Addr} {xs : List Int} (h : Src w ad xs) (pos : Nat) (ys : List Int) (hp : ∃ a b, xs = a ++ ys ++ b ∧ a.length = pos) : ∀ j x, (nums .u8 ys)[j]? = some x → w.cell? ((ad.add pos).add j) = some x := by
  obtain ⟨a, b, rfl, rfl⟩ := hp
  intro j x hx
  rw [add_add']
  apply h
  have hj : j < ys.length := by
    have := (List.getElem?_eq_some_iff.1 hx).1
    simpa [nums] using this
  rw [nums_append, nums_append, List.getElem?_append_left (by simp [nums]; omega), List.getElem?_append_right (by simp [nums])]
  simpa [nums] using hx
theorem readAtLeast_zero (a : Addr) (g c : Nat) (w : World) : Calls Tryd.prog 90 #[.iface tpRd (.pointer (some a)), .slice (some ⟨g, 0, none⟩) 0 c, .int .i64 0] w fun e w' => e = .returned (.tuple #[.int .i64 0, .nilIface]) ∧ w' = w := by
  go_enter Tryd.func90, Tryd.ntmps90
  go_wp2_with fail
  go_loopw [6, 7] (fun x y wr => x = .int .i64 0 ∧ y = .nilIface ∧ wr = w) (fun _ _ _ => 0)
  case atStart => exact ⟨rfl, rfl, rfl⟩
  case round =>
    obtain ⟨rfl, rfl, rfl⟩ := hrel
    go_wp2_with fail
    go_ret2
    exact ⟨rfl, rfl⟩
theorem readFull_zero (a : Addr) (g c : Nat) (w : World) : Calls Tryd.prog 79 #[.iface tpRd (.pointer (some a)), .slice (some ⟨g, 0, none⟩) 0 c] w fun e w' => e = .returned (.tuple #[.int .i64 0, .nilIface]) ∧ w' = w := by
  go_enter Tryd.func79, Tryd.ntmps79
  go_wp2_with fail
  refine (readAtLeast_zero a g c w).mono ?_
  rintro e w1 ⟨rfl, rfl⟩
  go_wp2_with fail
  go_ret2
  exact ⟨rfl, rfl⟩
/-- A map of ascending marks, written. -/
def wireL (l : List Mk) : List Int := l.flatMap fun m => Z.leB m.1.size 8 ++ bytesOf m.1 ++ Z.leB m.2 1
theorem wireL_take (l : List Mk) (k : Nat) (hk : k < l.length) : wireL (l.take (k + 1)) = wireL (l.take k) ++ Z.leB l[k].1.size 8 ++ bytesOf l[k].1 ++ Z.leB l[k].2 1 := by
  rw [List.take_succ_eq_append_getElem hk, wireL, List.flatMap_append, ← wireL]; simp
theorem wireL_split (l : List Mk) (k : Nat) (hk : k < l.length) : wireL l = wireL (l.take k) ++ Z.leB l[k].1.size 8 ++ bytesOf l[k].1 ++ Z.leB l[k].2 1 ++ wireL (l.drop (k + 1)) := by
  conv => lhs; rw [← List.take_append_drop (k + 1) l]
  rw [wireL, List.flatMap_append, ← wireL, ← wireL, wireL_take l k hk]
theorem wireL_len : ∀ l : List Mk, (∀ m ∈ l, m.1.size ≤ 60) → (wireL l).length ≤ 69 * l.length
  | [], _ => by simp [wireL]
  | x :: r, h => by
    have h1 := wireL_len r (fun y hy => h y (by simp [hy]))
    have h2 := h x (by simp)
    have e : wireL (x :: r) = (Z.leB x.1.size 8 ++ bytesOf x.1 ++ Z.leB x.2 1) ++ wireL r := by simp [wireL]
    rw [e, List.length_append, List.length_append, List.length_append, Z.leB_length, Z.leB_length, bytesOf_length, List.length_cons]
    omega
theorem mapBytes_asc {l : List Mk} (h : Asc l) (hv : ∀ m ∈ l, 0 ≤ m.2 ∧ m.2 ≤ 100) : mapBytes (.map (l.map ent)) = Z.leB l.length 8 ++ wireL l := by
  have hb := back_asc h hv
  unfold backL at hb
  unfold mapBytes
  have hlen : ((strKeys (DataW.map (l.map ent))).mergeSort Go.leB).length = l.length := by
    have := congrArg List.length hb
    simpa using this
  rw [hlen]
  congr 1
  conv => rhs; rw [← hb]
  simp only [bodyL, wireL, List.flatMap_map, mkS_size]
theorem readFull_any (rb g n L cS pos : Nat) (ad : Addr) (cur : Array Value) (bs : List Int) (w : World) (hr : Rdr rb ad L cS pos w) (hg : w.heap[g]? = some (.cells cur U8 (0, 0))) (hcur : cur.size = n) (hbs : bs.length = n) (hl : pos + n ≤ L) (hL : L ≤ cS) (hcS : cS ≤ maxLen) (had : ad.block ≠ rb)
    (hsrc : ∀ j x, (nums .u8 bs)[j]? = some x → w.cell? ((ad.add pos).add j) = some x) :
    Calls Tryd.prog 79 #[.iface tpRd (.pointer (some ⟨rb, 0, none⟩)), .slice (some ⟨g, 0, none⟩) n n] w fun e w' => e = .returned (.tuple #[.int .i64 n, .nilIface]) ∧ Rdr rb ad L cS (pos + n) w' ∧ w'.heap[g]? = some (.cells (nums .u8 bs).toArray U8 (0, 0)) ∧ Keeps (fun i => i = rb ∨ i = g) w w' := by
  rcases Nat.eq_zero_or_pos n with h0 | h0
  · subst h0
    have e1 : bs = [] := List.eq_nil_of_length_eq_zero hbs
    have e2 : cur = #[] := Array.eq_empty_of_size_eq_zero hcur
    subst e1 e2
    refine (readFull_zero _ g 0 w).mono ?_
    rintro e w' ⟨rfl, rfl⟩
    exact ⟨rfl, hr, hg, Keeps.refl _ _⟩
  · obtain ⟨prev, hr⟩ := hr
    unfold maxLen at hcS
    refine (readFull_full rb g n n L cS pos prev ad cur (nums .u8 bs) w hr hg hcur (Nat.le_refl _) (by omega) h0 hl hL (by unfold maxLen; omega) (by rw [nums_length]; exact hbs) (one_nums _ _) had hsrc).mono ?_
    rintro e w' ⟨rfl, h1, h2, h3⟩
    exact ⟨rfl, ⟨_, h1⟩, h2, h3⟩
theorem map_keeps {S : Nat → Prop} {w w1 : World} {b n : Nat} {D : DataW Unit} {R : Value → Option (DataW Unit × List MemPlace)} (h : w.ownsMap Tryd.prog 9 R b n D) (k : Keeps S w w1) (hb : ¬ S b) : w1.ownsMap Tryd.prog 9 R b n D := by
  obtain ⟨es, clock, h1, r⟩ := h
  exact ⟨es, clock, (k.block _ (lt_of_heap h1) hb).trans h1, r⟩
theorem rdr_keeps {S : Nat → Prop} {w w1 : World} {rb L cS pos : Nat} {ad : Addr} (h : Rdr rb ad L cS pos w) (k : Keeps S w w1) (hb : ¬ S rb) : Rdr rb ad L cS pos w1 := by
  obtain ⟨p, h⟩ := h
  exact ⟨p, (k.block _ (lt_of_heap h) hb).trans h⟩
theorem keeps_alloc {S : Nat → Prop} (w : World) (o : Obj) : Keeps S w (w.alloc o) := Keeps.of_below (below_alloc (Below.refl _ _) _)
theorem strOfNums_bytes (s : ByteArray) : strOfNums (bytesOf s) = s := by
  apply ByteArray.ext
  apply Array.ext'
  unfold strOfNums bytesOf
  rw [List.map_map]
  show List.map _ s.data.toList = s.data.toList
  conv => rhs; rw [← List.map_id s.data.toList]
  apply List.map_congr_left
  intro b _
  simp
theorem make_hint (n : Int) (W : World) : (Instr.makeMap 110 (some (.int .i64 n))).run Tryd.prog W = .ok (.map (some W.heap.size)) (W.alloc (.map #[] 0)) := by
  unfold Instr.makeMap
  simp [run_underlying Tryd.underlying110, asInt]
  rfl
def RdOut (l : List Mk) (rb : Nat) (w : World) (e : Ending) (w' : World) : Prop := ∃ b, e = .returned (.tuple #[.map (some b), .nilIface]) ∧ w'.ownsMap Tryd.prog 9 (plainElem Tryd.prog 74) b l.length (mapL l) ∧ Keeps (fun i => i = rb ∨ w.heap.size ≤ i) w w'

set_option maxHeartbeats 4000000 in
set_option maxRecDepth 5000 in
theorem readMap_any (rb L cS : Nat) (ad : Addr) (l : List Mk) (w : World) (hl30 : l.length ≤ 30) (h60 : ∀ m ∈ l, m.1.size ≤ 60) (hv : ∀ m ∈ l, 0 ≤ m.2 ∧ m.2 ≤ 100)
    (hr : Rdr rb ad L cS 0 w) (hL : L = 8 + (wireL l).length) (hcS : L ≤ cS) (hcM : cS ≤ maxLen) (had : ad.block ≠ rb) (hadl : ad.block < w.heap.size) (hsrc : Src w ad (Z.leB l.length 8 ++ wireL l)) :
    Calls Tryd.prog 75 #[.iface tpRd (.pointer (some ⟨rb, 0, none⟩))] w (RdOut l rb w) := by
  have hmm := make_hint
  have hrlt : rb < w.heap.size := by obtain ⟨p, h⟩ := hr; exact lt_of_heap h
  have H60 := Lib.hid h60
  have HV := Lib.hid hv
  have hwl := wireL_len l h60
  have k0 : Keeps (fun i => i = rb ∨ w.heap.size ≤ i) w (w.alloc (.cells #[.int .i64 0] 2)) := keeps_alloc _ _
  have RD0 := Lib.hid (rdr_keeps (S := fun i => w.heap.size ≤ i) hr (keeps_alloc _ (.cells #[.int .i64 0] 2)) (by omega))
  have S0 := Lib.hid (hsrc.keeps k0 (by omega))
  have G0 := Lib.hid (heap_alloc_new w (.cells #[.int .i64 0] 2))
  have K0 := Lib.hid k0
  clear hr hsrc h60 hv k0
  go_enter Tryd.func75, Tryd.ntmps75
  go_wp2_with fail
  refine (read_i64 rb L cS 0 w.heap.size 0 2 ad _ 0 (l.length : Nat) _ (by omega) RD0.out G0.out rfl (by decide) (by omega) hcS hcM had (S0.out.part 0 _ ⟨[], wireL l, by simp, rfl⟩)).mono ?_
  rintro e w1 ⟨rfl, hr1, hg1, hk1⟩
  have hk1' := hk1.mono (T := fun i => i = rb ∨ w.heap.size ≤ i) (fun i _ h => h.imp id (by omega))
  have RD1 := Lib.hid (show Rdr rb ad L cS 8 w1 from hr1)
  have S1 := Lib.hid (S0.out.keeps hk1' (by omega))
  have K1 := Lib.hid (K0.out.trans hk1')
  have c0 : w1.cell? ⟨w.heap.size, 0, none⟩ = some (.int .i64 (l.length : Nat)) := cell_block hg1 0
  have hs1 : w.heap.size < w1.heap.size := lt_of_heap hg1
  clear hr1 hg1 hk1 hk1' RD0 S0 G0 K0
  go_wp2_with fail
  have hbm : w.heap.size ≤ w1.heap.size := by omega
  have km : Keeps (fun i => i = rb ∨ w.heap.size ≤ i) w1 (w1.alloc (.map #[] 0)) := keeps_alloc _ _
  have RD2 := Lib.hid (rdr_keeps (S := fun i => w1.heap.size ≤ i) RD1.out (keeps_alloc _ (.map #[] 0)) (by omega))
  have S2 := Lib.hid (S1.out.keeps km (by omega))
  have K2 := Lib.hid (K1.out.trans km)
  have M2 := Lib.hid (World.ownsMap_made (H := Unit) w1 Tryd.prog 9 (plainElem Tryd.prog 74))
  obtain ⟨bm, hbmm⟩ : ∃ bm, w1.heap.size = bm := ⟨_, rfl⟩
  have hbs : bm < (w1.alloc (.map #[] 0)).heap.size := by simp; omega
  generalize w1.alloc (.map #[] 0) = w2 at RD2 S2 K2 M2 hbs ⊢
  rw [hbmm] at M2 hbm ⊢
  clear c0 km RD1 S1 K1 hs1 hbmm
  go_loopw [22] (fun i wr => ∃ k : Nat, k ≤ l.length ∧ i = .int .i64 k ∧ bm < wr.heap.size ∧ Hid (Rdr rb ad L cS (8 + (wireL (l.take k)).length) wr) ∧ Hid (Src wr ad (Z.leB l.length 8 ++ wireL l)) ∧ Hid (wr.ownsMap Tryd.prog 9 (plainElem Tryd.prog 74) bm k (mapL (l.take k))) ∧ Hid (Keeps (fun i => i = rb ∨ w.heap.size ≤ i) w wr)) (fun i _ => l.length - (intOf i).toNat)
  case atStart => exact ⟨0, Nat.zero_le _, rfl, hbs, by simpa [wireL] using RD2, S2, M2, K2⟩
  case round =>
    clear RD2 S2 M2 K2 hbs
    obtain ⟨k, hk, rfl, hbr, hR, hS, hM, hK⟩ := hrel
    have hszr := hK.out.size
    by_cases hlt : k < l.length
    · have hsz := H60.out l[k] (List.getElem_mem _)
      have hvv := HV.out l[k] (List.getElem_mem _)
      have hsp := wireL_split l k hlt
      have HTK := Lib.hid (wireL_take l k hlt)
      have HT := Lib.hid (show l.take (k + 1) = l.take k ++ [l[k]] by rw [List.take_succ_eq_append_getElem hlt])
      generalize l[k] = m at hsz hvv hsp HTK HT
      obtain ⟨s, v⟩ := m
      simp only at hsz hvv hsp HTK
      obtain ⟨P, hP⟩ : ∃ P, (wireL (l.take k)).length = P := ⟨_, rfl⟩
      have hLs : L = 8 + (P + 8 + s.size + 1 + (wireL (l.drop (k + 1))).length) := by
        rw [hL, hsp, List.length_append, List.length_append, List.length_append, List.length_append, Z.leB_length, Z.leB_length, bytesOf_length, hP]
      obtain ⟨T, hT⟩ : ∃ T, wireL (l.drop (k + 1)) = T := ⟨_, rfl⟩
      rw [hT] at hsp hLs
      have HSP := Lib.hid hsp
      have HP := Lib.hid hP
      obtain ⟨n, hn⟩ : ∃ n, s.size = n := ⟨_, rfl⟩
      have hS0 := hS.out
      rw [hsp, hn] at hS0
      rw [hn] at hsz hLs HTK
      rw [hP] at hR
      have q1 : Keeps (fun i => i = rb ∨ wr.heap.size ≤ i) wr (wr.alloc (.cells #[.int .i64 0] 2)) := keeps_alloc _ _
      have A1 := Lib.hid (rdr_keeps (S := fun i => wr.heap.size ≤ i) hR.out (keeps_alloc _ (.cells #[.int .i64 0] 2)) (by omega))
      have A2 := Lib.hid (Src.keeps hS0 q1 (by omega))
      have A3 := Lib.hid (heap_alloc_new wr (.cells #[.int .i64 0] 2))
      have HN := Lib.hid hn
      clear hsp hP hS0 hn
      go_wp2_with fail
      refine (read_i64 rb L cS (8 + P) wr.heap.size 0 2 ad _ 0 (n : Nat) _ (by omega) A1.out A3.out rfl (by decide) (by omega) hcS hcM had (A2.out.part (8 + P) _ ⟨Z.leB l.length 8 ++ wireL (l.take k), bytesOf s ++ Z.leB v 1 ++ T, by simp [List.append_assoc], by rw [List.length_append, Z.leB_length, HP.out]⟩)).mono ?_
      rintro e w3 ⟨rfl, hr3, hg3, hk3⟩
      have q3 := q1.trans (hk3.mono (T := fun i => i = rb ∨ wr.heap.size ≤ i) (fun i _ h => h.imp id (by omega)))
      have B1 := Lib.hid hr3
      have B2 := Lib.hid (A2.out.keeps (hk3.mono (T := fun i => i = rb ∨ wr.heap.size ≤ i) (fun i _ h => h.imp id (by omega))) (by omega))
      have Q3 := Lib.hid q3
      have c0 : w3.cell? ⟨wr.heap.size, 0, none⟩ = some (.int .i64 (n : Nat)) := cell_block hg3 0
      have hmk : ∀ W : World, (Instr.makeSlice 25 (.int .i64 n) (.int .i64 n)).run Tryd.prog W = .ok (.slice (some ⟨W.heap.size, 0, none⟩) n n) (W.alloc (.cells (madeCells #[.int .u8 0] n) U8)) := fun W =>
        run_make_row' (P := Tryd.prog) 25 5 (.int .u8 0) 1 Tryd.underlying25 (by kernel_rfl) rfl .i64 .i64 n (by omega) (by omega) W
      have hs3 : wr.heap.size ≤ w3.heap.size := Q3.out.size
      clear hr3 hg3 hk3 q3 q1 A1 A2 A3
      go_wp2_with fail
      have p4 : Keeps (fun i => i = rb ∨ wr.heap.size ≤ i) w3 (w3.alloc (.cells (madeCells #[.int .u8 0] n) U8)) := keeps_alloc _ _
      have p4r := rdr_keeps (S := fun i => w3.heap.size ≤ i) B1.out (keeps_alloc _ (.cells (madeCells #[.int .u8 0] n) U8)) (by omega)
      refine (readFull_any rb w3.heap.size n L cS (8 + P + 8) ad (madeCells #[.int .u8 0] n) (bytesOf s) _ p4r (heap_alloc_new _ _) (size_madeCells _ _) (by rw [bytesOf_length, HN.out]) (by omega) hcS hcM had ((Src.keeps B2.out p4 (by omega)).part (8 + P + 8) _ ⟨Z.leB l.length 8 ++ wireL (l.take k) ++ Z.leB (n : Nat) 8, Z.leB v 1 ++ T, by simp [List.append_assoc], by rw [List.length_append, List.length_append, Z.leB_length, Z.leB_length, HP.out]⟩)).mono ?_
      rintro e w4 ⟨rfl, hr4, hg4, hk4⟩
      have q4 := hk4.mono (T := fun i => i = rb ∨ wr.heap.size ≤ i) (fun i _ h => h.imp id (by omega))
      have C1 := Lib.hid hr4
      have C2 := Lib.hid ((B2.out.keeps p4 (by omega)).keeps q4 (by omega))
      have Q4 := Lib.hid ((Q3.out.trans p4).trans q4)
      have G4 := Lib.hid hg4
      have hs4 : wr.heap.size ≤ w4.heap.size := Q4.out.size
      have hg4l : w3.heap.size < w4.heap.size := lt_of_heap hg4
      have D1 := Lib.hid (rdr_keeps (S := fun i => w4.heap.size ≤ i) hr4 (keeps_alloc _ (.cells #[.int .i8 0] 74)) (by omega))
      have D2 := Lib.hid (Src.keeps C2.out (keeps_alloc (S := fun i => i = rb ∨ wr.heap.size ≤ i) w4 (.cells #[.int .i8 0] 74)) (by omega))
      clear hr4 hg4 hk4 q4 p4 p4r B1 B2 Q3 c0 hmk
      go_wp2_with fail
      refine (read_i8 rb L cS (8 + P + 8 + n) w4.heap.size 0 74 ad _ 0 v _ (by omega) D1.out (heap_alloc_new w4 _) rfl (by decide) (by omega) hcS hcM had (D2.out.part (8 + P + 8 + n) _ ⟨Z.leB l.length 8 ++ wireL (l.take k) ++ Z.leB (n : Nat) 8 ++ bytesOf s, T, by simp [List.append_assoc], by rw [List.length_append, List.length_append, List.length_append, Z.leB_length, Z.leB_length, HP.out, bytesOf_length, HN.out]⟩)).mono ?_
      rintro e w5 ⟨rfl, hr5, hg5, hk5⟩
      have q5 := (keeps_alloc (S := fun i => i = rb ∨ wr.heap.size ≤ i) w4 (.cells #[.int .i8 0] 74)).trans (hk5.mono (T := fun i => i = rb ∨ wr.heap.size ≤ i) (fun i _ h => h.imp id (by omega)))
      have Q5 := Lib.hid (Q4.out.trans q5)
      have hgw : w5.heap[w3.heap.size]? = some (.cells (nums .u8 (bytesOf s)).toArray U8 (0, 0)) := (hk5.block _ (by simp; omega) (by omega)).trans ((heap_alloc_old w4 _ hg4l).trans G4.out)
      have hCv := C_of_block (d := Kd.int .u8) hgw (reps_ints w5 .u8 (bytesOf s)) (by rw [bytesOf_length, HN.out]; omega)
      rw [bytesOf_length, HN.out] at hCv
      have hcv := Kd.C_string (P := Tryd.prog) (src := 25) (dst := 9) (e := 5) (c := n) Tryd.underlying25 Tryd.underlying5 Tryd.underlying9 hCv
      rw [show strOfNums (bytesOf s) = s from strOfNums_bytes s] at hcv
      have c1 : w5.cell? ⟨w4.heap.size, 0, none⟩ = some (.int .i8 v) := cell_block hg5 0
      have hkey : keyOf Tryd.prog 9 (.string s) = some (mkKey s) := WideMaps.keyOf_string_mk Tryd.underlying9 (by rw [HN.out]; unfold maxLen; omega)
      have hwfv : (Lit.int .i8 v).wf = true := by
        have := wf_i8 v
        rwa [wrap_small hvv.1 hvv.2] at this
      have HM5 := Lib.hid (map_keeps hM.out Q5.out (by omega))
      have E1 := Lib.hid (show Rdr rb ad L cS (8 + (wireL (l.take (k + 1))).length) w5 by
        rw [HTK.out, List.length_append, List.length_append, List.length_append, Z.leB_length, Z.leB_length, bytesOf_length, HN.out, HP.out, show 8 + (P + 8 + n + 1) = 8 + P + 8 + n + 1 by omega]
        exact hr5)
      have hs5 : wr.heap.size ≤ w5.heap.size := Q5.out.size
      clear hr5 hg5 hk5 q5 C1 C2 Q4 G4 D1 D2 hgw hCv
      go_wp2_with (first
        | (at_mapUpdate; refine wpList_mapUpdate_own _ rfl _ _ _ 110 rfl 9 74 law Tryd.underlying110 _ bm k (mapL (l.take k)) rfl HM5.out (by unfold maxLen; omega) _ _ _ rfl rfl hkey _ [] (plainElem_int Tryd.underlying74 hwfv) ?_)
        | go_in)
      intro w6 hown6 hgrow6
      have q6 : Keeps (fun i => i = rb ∨ w.heap.size ≤ i) w5 w6 := ⟨hgrow6.os, hgrow6.tape, hgrow6.output, hgrow6.size, fun i hi hs => hgrow6.block i hi (by intro e; cases e; omega)⟩
      have QQ := hK.out.trans (Q5.out.mono (T := fun i => i = rb ∨ w.heap.size ≤ i) (fun i _ h => h.imp id (by omega)))
      have F1 := Lib.hid (rdr_keeps (S := fun i => i = bm) E1.out ⟨hgrow6.os, hgrow6.tape, hgrow6.output, hgrow6.size, fun i hi hs => hgrow6.block i hi (by intro e; cases e; exact hs rfl)⟩ (by omega))
      have F2 := Lib.hid ((hS.out.keeps (S := fun i => i = rb ∨ wr.heap.size ≤ i) Q5.out (by omega)).keeps q6 (by omega))
      have F3 := Lib.hid (show w6.ownsMap Tryd.prog 9 (plainElem Tryd.prog 74) bm (k + 1) (mapL (l.take (k + 1))) by
        rw [HT.out, mapL_snoc]
        simp only [mkVal, wrap_small hvv.1 hvv.2]
        exact hown6)
      have F4 := Lib.hid (QQ.trans q6)
      have hb6 : bm < w6.heap.size := by have := hgrow6.size; omega
      clear hown6 hgrow6 q6 QQ c1 hcv
      go_wp2_with fail
      exact ⟨⟨k + 1, by omega, by go_num, hb6, F1, F2, F3, F4⟩, by simp [intOf]; omega⟩
    · obtain rfl : k = l.length := by omega
      have h2 := hM.out
      rw [List.take_length] at h2
      have H2 := Lib.hid h2
      clear h2
      go_wp2_with fail
      go_ret2
      exact ⟨bm, by simp, H2.out, hK.out⟩
end Go.Proofs.YtaniafohcaiedaaDoor.M
