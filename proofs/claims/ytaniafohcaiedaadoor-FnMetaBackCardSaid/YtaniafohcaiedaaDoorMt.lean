/-
  The walks of impl.MetaBytes and impl.MetaAgain.
-/
import Derived.Test.YtaniafohcaiedaaDoorRm
set_option linter.unusedVariables false
set_option linter.unusedSimpArgs false
namespace Go.Proofs.YtaniafohcaiedaaDoor.M
open Go.RowKit Go.Proofs.YtaniafohcaiedaaDoor.K Go.Proofs.YtaniafohcaiedaaDoorW.PrintWords Go.Maps Go.Sort Go.Proofs.YtaniafohcaiedaaDoor.Z Go.Proofs.YtaniafohcaiedaaDoor.Zt

theorem three_back {w : World} {b : Nat} {x y z : Value} (h : LibA.Three w b 0 tBuf (fun _ => none) x y z) : w.heap[b]? = some (.cells #[x, y, z] tBuf (0, 0)) := by
  obtain ⟨cs, hb, h0, h1, h2, hr⟩ := h
  rw [hb]
  have : cs = #[x, y, z] := by
    have h3 := hr 3 (.inr (by omega))
    have hs : cs.size = 3 := by
      have a2 := (Array.getElem?_eq_some_iff.1 h2).1
      have a3 := Array.getElem?_eq_none_iff.1 h3
      omega
    apply Array.ext
    · simpa using hs
    · intro i hi hi'
      have : i = 0 ∨ i = 1 ∨ i = 2 := by omega
      rcases this with rfl | rfl | rfl
      · have := Array.getElem?_eq_getElem hi; rw [h0] at this; simpa using this.symm
      · have := Array.getElem?_eq_getElem hi; rw [h1] at this; simpa using this.symm
      · have := Array.getElem?_eq_getElem hi; rw [h2] at this; simpa using this.symm
  rw [this]
theorem buf_whole {B b : Nat} {xs : List Int} {w : World} (h : Buf B b xs w) : Lib.IsBuffer tBuf U8 B b (nums .u8 xs) w := by
  obtain ⟨hB, v, lr, hbk, r⟩ := h
  exact ⟨hB, v, lr, three_back hbk, r⟩
theorem newReader_any (A : Option Addr) (L c : Nat) (w : World) : Calls Tryd.prog 42 #[.slice A L c] w fun e w' => e = .returned (.pointer (some ⟨w.heap.size, 0, none⟩)) ∧ w' = w.alloc (.cells #[.slice A L c, .int .i64 0, .int .i64 (-1)] tRd) := by
  go_enter Tryd.func42, Tryd.ntmps42
  go_wp2
  go_ret
  exact ⟨rfl, rfl⟩

theorem src_of {w : World} {g n : Nat} {cur : Array Value} {bs : List Int} (hg : w.heap[g]? = some (.cells cur U8 (0, 0))) (ht : cur.toList.take n = nums .u8 bs) : Src w ⟨g, 0, none⟩ bs := by
  intro j x hx
  rw [add_plain, cell_block hg]
  rw [← ht] at hx
  have hj : j < n := by
    rcases Nat.lt_or_ge j n with h | h
    · exact h
    · rw [List.getElem?_take, if_neg (by omega)] at hx; cases hx
  rw [List.getElem?_take, if_pos hj] at hx
  simpa using hx

/-- A list of marks as the law lets it in: ascending, small. -/
structure Good (l : List Mk) : Prop where
  asc : Asc l
  val : ∀ m ∈ l, 0 ≤ m.2 ∧ m.2 ≤ 100
  nam : ∀ m ∈ l, m.1.size ≤ 60
  len : l.length ≤ 30
def wire (l : List Mk) : List Int := Z.leB l.length 8 ++ wireL l
theorem wire_len (l : List Mk) : (wire l).length = 8 + (wireL l).length := by rw [wire, List.length_append, Z.leB_length]
set_option maxHeartbeats 1000000 in
theorem writeTo_any (B bb : Nat) (xs : List Int) (b n : Nat) (D : DataW Unit) (w : World) (hbuf : Buf B bb xs w) (hB : B ≤ w.heap.size) (hbne : b ≠ bb) (hown : w.ownsMap Tryd.prog 9 (plainElem Tryd.prog 74) b n D) (hmax : Maps.size D ≤ 30) (hkl : ∀ x ∈ strKeys D, x.length ≤ 60) (hl : xs.length + 3000 ≤ 140737488355328) :
    Calls Tryd.prog 62 #[.map (some b), .iface 82 (.pointer (some ⟨bb, 0, none⟩))] w (WrOut B bb xs (mapBytes D) w) := by
  have H := Lib.hid (writeMap_any B bb xs b n D w hbuf hB hbne hown hmax hkl hl)
  clear hbuf hB hbne hown hmax hkl hl
  go_enter Tryd.func62, Tryd.ntmps62
  go_wp2_with fail
  refine H.out.mono ?_
  rintro e w2 ⟨rfl, h1, h2, h3⟩
  have H2 := Lib.hid (And.intro h1 (And.intro h2 h3))
  clear h1 h2 h3
  go_wp2_with fail
  go_ret2
  exact ⟨rfl, H2.out⟩
theorem buf_new (w : World) : Buf w.heap.size w.heap.size [] (w.alloc (.cells #[.slice none 0 0, .int .i64 0, .int .i8 0] tBuf)) := LibA.of_whole (Lib.fresh_isBuffer tBuf U8 w)
def MbOut (l : List Mk) (w : World) (e : Ending) (w' : World) : Prop := ∃ g cap cur, e = .returned (.tuple #[.slice (some ⟨g, 0, none⟩) (wire l).length cap, .int .i64 0]) ∧ w.heap.size ≤ g ∧ w'.heap[g]? = some (.cells cur U8 (0, 0)) ∧ (wire l).length ≤ cap ∧ cap ≤ maxLen ∧
      cur.toList.take (wire l).length = nums .u8 (wire l) ∧ Below w.heap.size w w'
set_option maxHeartbeats 2000000 in
set_option maxRecDepth 5000 in
theorem metaBytes_any (A : Option Addr) (c : Nat) (l l' : List Mk) (w : World) (hC : kMk.C w A l'.length l') (hp : l'.Perm l) (hg : Good l) :
    Calls Tryd.prog 37 #[.slice A l'.length c] w (MbOut l w) := by
  have HBuf := Lib.hid (buf_new w)
  have HLb := Lib.hid (below_alloc (Below.refl w.heap.size w) (.cells #[.slice none 0 0, .int .i64 0, .int .i8 0] tBuf))
  have HC := Lib.hid (Kd.C_below hC HLb.out)
  have HG := Lib.hid hg
  have hle := hp.length_eq
  have hl30 := hg.len
  have h60 : ∀ m ∈ l', m.1.size ≤ maxLen := fun m hm => by have := hg.nam m (hp.mem_iff.1 hm); unfold maxLen; omega
  have HPM := Lib.hid (mapL_perm hg.asc hp)
  have hkk : ∀ x ∈ strKeys (DataW.map (l.map ent)), x.length ≤ 60 := by
    rw [keys_asc]
    intro x hx
    obtain ⟨m, hm, rfl⟩ := List.mem_map.1 hx
    have := hg.nam m hm
    rw [data_length]
    exact this
  have HKK := Lib.hid hkk
  have HH60 := Lib.hid h60
  have hl30' : l'.length ≤ 2147483647 := by omega
  have HLE := Lib.hid hle
  clear hC hg hkk h60 hle
  go_enter Tryd.func37, Tryd.ntmps37
  go_wp2_with fail
  refine (marks_any A c l' _ HC.out hl30' HH60.out).mono ?_
  rintro e w1 ⟨rfl, hm1, hl1⟩
  have hlb : Below w.heap.size w w1 := HLb.out.trans (hl1.mono (by simp))
  have hb1 : Buf w.heap.size w.heap.size [] w1 := buf_keeps HBuf.out (S := fun i => w.heap.size + 1 ≤ i) (Keeps.of_below hl1) (by omega) (fun i hi hs => by simp at hi; omega)
  rw [HPM.out] at hm1
  simp only [size_alloc] at hm1 ⊢
  have hs1 := hlb.size
  have HW := Lib.hid (writeTo_any w.heap.size w.heap.size [] (w.heap.size + 1) l'.length (.map (l.map ent)) w1 hb1 hs1 (by omega) hm1 (by simp [Maps.size]; exact hl30) HKK.out (by simp))
  have HL1 := Lib.hid hlb
  clear hl1 hlb hb1 hm1
  go_wp2_with fail
  refine HW.out.mono ?_
  rintro e w2 ⟨rfl, hb2, hl2, ho2⟩
  rw [mapBytes_asc HG.out.asc HG.out.val] at hb2 ⊢
  have HB2 := Lib.hid (show Buf w.heap.size w.heap.size (wire l) w2 from hb2)
  have HL2 := Lib.hid (HL1.out.trans hl2)
  have hw0 := wire_len l
  obtain ⟨N, hN⟩ : ∃ N, (wire l).length = N := ⟨_, rfl⟩
  have hlen : (nums .u8 (wire l)).length = N := by simp [nums, hN]
  rw [show Z.leB (l.length : Int) 8 ++ wireL l = wire l from rfl, hN]
  have HNN := Lib.hid hN
  clear hb2 hl2 ho2 HW hN
  go_wp2_with fail
  refine (Tryd.Buffer_Len_at tBuf (fun _ => none) w.heap.size w.heap.size 0 _ w2 HB2.out).mono ?_
  rintro e w3 ⟨rfl, n3, rfl⟩
  rw [hlen]
  have HB3 : Hid (Buf w.heap.size w.heap.size (wire l) (w2.drewN n3)) := Lib.hid HB2.out
  have HL3 := Lib.hid (pw_below_drewN HL2.out n3)
  go_wp2_with fail
  refine (Tryd.Buffer_Bytes w.heap.size w.heap.size _ _ (buf_whole HB3.out)).mono ?_
  rintro e w4 ⟨v4, rfl, ho4, n4, rfl⟩
  rw [hlen] at ho4
  have HO4 := Lib.hid ho4
  have HL4 := Lib.hid (pw_below_drewN HL3.out n4)
  clear ho4
  go_wp2
  go_ret2
  rcases HO4.out.2 with ⟨_, h⟩ | ⟨g, cap, cur, rfl, h2, h3, h4, h5, h6, h7⟩
  · have := HNN.out; omega
  · unfold MbOut
    rw [HNN.out]
    exact ⟨g, cap, cur, rfl, h2, h3, h4, h5, by simpa using h7, pw_below_drewN HL2.out _⟩
set_option maxHeartbeats 1000000 in
theorem readMeta_any (rb L cS : Nat) (ad : Addr) (l : List Mk) (w : World) (hl30 : l.length ≤ 30) (h60 : ∀ m ∈ l, m.1.size ≤ 60) (hv : ∀ m ∈ l, 0 ≤ m.2 ∧ m.2 ≤ 100)
    (hr : Rdr rb ad L cS 0 w) (hL : L = 8 + (wireL l).length) (hcS : L ≤ cS) (hcM : cS ≤ maxLen) (had : ad.block ≠ rb) (hadl : ad.block < w.heap.size) (hsrc : Src w ad (Z.leB l.length 8 ++ wireL l)) :
    Calls Tryd.prog 59 #[.iface tpRd (.pointer (some ⟨rb, 0, none⟩))] w (RdOut l rb w) := by
  have H := Lib.hid (readMap_any rb L cS ad l w hl30 h60 hv hr hL hcS hcM had hadl hsrc)
  clear hl30 h60 hv hr hL hcS hcM had hadl hsrc
  go_enter Tryd.func59, Tryd.ntmps59
  go_wp2_with fail
  refine H.out.mono ?_
  rintro e w2 ⟨b, rfl, h2, h3⟩
  have H2 := Lib.hid (And.intro h2 h3)
  clear h2 h3
  go_wp2_with fail
  go_ret2
  exact ⟨b, rfl, H2.out⟩
def MaOut (l : List Mk) (w : World) (e : Ending) (w' : World) : Prop := ∃ A c, e = .returned (.tuple #[.slice A l.length c, .int .i64 0]) ∧ kMk.C w' A l.length l ∧ Below w.heap.size w w'
set_option maxHeartbeats 2000000 in
set_option maxRecDepth 5000 in
theorem metaAgain_any (A : Option Addr) (c : Nat) (l l' : List Mk) (w : World) (hC : kMk.C w A l'.length l') (hp : l'.Perm l) (hg : Good l) :
    Calls Tryd.prog 35 #[.slice A l'.length c] w (MaOut l w) := by
  have H := Lib.hid (metaBytes_any A c l l' w hC hp hg)
  have HG := Lib.hid hg
  clear hC hp hg
  go_enter Tryd.func35, Tryd.ntmps35
  go_wp2_with fail
  refine H.out.mono ?_
  rintro e w1 ⟨g, cap, cur, rfl, hwg, hgb, hcap, hcm, htk, hl1⟩
  have hs := src_of hgb htk
  have hglt : g < w1.heap.size := lt_of_heap hgb
  have hwl := wire_len l
  obtain ⟨N, hN⟩ : ∃ N, (wire l).length = N := ⟨_, rfl⟩
  rw [hN] at hcap hwl ⊢
  have HS := Lib.hid hs
  have HL1 := Lib.hid hl1
  have HWL := Lib.hid hwl
  have hsz1 := hl1.size
  clear hs hl1 htk hgb hN hwl H
  go_wp2_with fail
  refine (newReader_any (some ⟨g, 0, none⟩) N cap w1).mono ?_
  rintro e w2 ⟨rfl, rfl⟩
  have k2 : Keeps (fun i => w1.heap.size ≤ i) w1 (w1.alloc (.cells #[.slice (some ⟨g, 0, none⟩) N cap, .int .i64 0, .int .i64 (-1)] tRd)) := keeps_alloc _ _
  have hrd2 : Rdr w1.heap.size ⟨g, 0, none⟩ N cap 0 (w1.alloc (.cells #[.slice (some ⟨g, 0, none⟩) N cap, .int .i64 0, .int .i64 (-1)] tRd)) := ⟨-1, heap_alloc_new _ _⟩
  have HR := Lib.hid (readMeta_any w1.heap.size N cap ⟨g, 0, none⟩ l _ HG.out.len HG.out.nam HG.out.val hrd2 HWL.out hcap hcm (by show g ≠ w1.heap.size; omega) (by show g < (w1.alloc _).heap.size; simp; omega) (HS.out.keeps k2 (by show ¬ w1.heap.size ≤ g; omega)))
  have K2 := Lib.hid k2
  clear k2 hrd2
  go_wp2_with fail
  refine HR.out.mono ?_
  rintro e w3 ⟨b, rfl, hm, hk⟩
  have hl3 : Below w1.heap.size w1 w3 := (K2.out.trans (hk.mono (fun i _ h => by
    rcases h with rfl | h
    · exact Nat.le_refl _
    · simp at h; omega))).below (fun i _ h => h) (Nat.le_refl _)
  rw [mapL_asc HG.out.asc] at hm
  have HL3 := Lib.hid (HL1.out.trans (hl3.mono hsz1))
  have hkk : ∀ x ∈ strKeys (DataW.map (l.map ent)), x.length ≤ maxLen := by
    rw [keys_asc]
    intro x hx
    obtain ⟨m, hm, rfl⟩ := List.mem_map.1 hx
    have := HG.out.nam m hm
    rw [data_length]
    unfold maxLen
    omega
  have hmb := marksBack_any b l.length (.map (l.map ent)) w3 hm (by simp [Maps.size]; have := HG.out.len; omega) hkk
  rw [back_asc HG.out.asc HG.out.val] at hmb
  have HMB := Lib.hid hmb
  have hsz3 := HL3.out.size
  clear hm hk hl3 hkk hmb HR
  go_wp2_with fail
  refine HMB.out.mono ?_
  rintro e w4 ⟨v, rfl, hR4, hb4⟩
  obtain ⟨A4, c4, rfl, _, hC4⟩ := Kd.R_reads hR4
  have HC4 := Lib.hid hC4
  have HL4 := Lib.hid (HL3.out.trans (hb4.mono hsz3))
  clear hR4 hC4 hb4
  go_wp2_with fail
  go_ret2
  exact ⟨A4, c4, rfl, HC4.out, HL4.out⟩
end Go.Proofs.YtaniafohcaiedaaDoor.M
