/-
  The walks of zzText, Contents.WriteTo and impl.ContentsBytes.
-/
import Derived.Test.YtaniafohcaiedaaJn
import Derived.Test.YtaniafohcaiedaaBf
import Derived.Lib.ConvBytes
set_option linter.unusedVariables false
set_option linter.unusedSimpArgs false
namespace Go.Proofs.Ytaniafohcaiedaa.Tx
open Go.RowKit Go.Proofs.Ytaniafohcaiedaa.K Go.Proofs.YtaniafohcaiedaaW.PrintWords Go.Proofs.Ytaniafohcaiedaa.Z

theorem bytesOf_append (a b : ByteArray) : bytesOf (a ++ b) = bytesOf a ++ bytesOf b := by simp [bytesOf, ByteArray.data_append]
theorem bw_below (w : World) (e : TypeId) (s : ByteArray) : Below w.heap.size w (Lib.bytesWorld w e s) := bytes_below (Below.refl _ _) (Nat.le_refl _) e s

set_option maxHeartbeats 1000000 in
set_option maxRecDepth 5000 in
theorem text_any (B b : Nat) (xs : List Int) (s : ByteArray) (w : World) (hb : Buf B b xs w) (hB : B ≤ w.heap.size) (hl : xs.length + s.size ≤ 140737488355328) :
    Calls Try.prog 62 #[.iface 80 (.pointer (some ⟨b, 0, none⟩)), .string s] w fun e w' => e = .returned (.tuple #[.int .i64 s.size, .nilIface]) ∧ Buf B b (xs ++ bytesOf s) w' ∧ Below B w w' ∧ Lib.OthersKept U8 (some b) w w' := by
  have hcv : ∀ W : World, (convert 9 45 (.string s)).run Try.prog W = .ok (.slice (some ⟨W.heap.size, 0, none⟩) s.size (grownCap W s.size 0 U8)) (Lib.bytesWorld W U8 s) := print_bytes 9 45 5 Try.underlying9 Try.underlying45 Try.underlying5 s
  have hbw := bw_below w U8 s
  have hblt : b < w.heap.size := hb.lt
  have hb0 : Buf B b xs (Lib.bytesWorld w U8 s) := hb.keeps (S := fun i => w.heap.size ≤ i) (Keeps.of_below hbw) (by omega) (fun i hi hs => by omega)
  have HB0 := Lib.hid hb0
  have HBW := Lib.hid hbw
  have hsz : (Lib.bytesWorld w U8 s).heap.size = w.heap.size + 1 := Lib.bytesWorld_size w U8 s
  clear hb hb0 hbw
  go_enter Try.func62, Try.ntmps62
  go_wp2_with fail
  refine (Try.Buffer_Write_at tBuf (fun _ => none) B b 0 (nums .u8 xs) (nums .u8 (bytesOf s)) ⟨w.heap.size, 0, none⟩ s.size _ (Lib.bytesWorld w U8 s) HB0.out (by omega) (one_nums _ _) (by rw [nums_length, bytesOf_length]) (by show w.heap.size ≠ b; omega) (fun j x hx => by
    rw [add_plain]
    have hj : j < s.size := by
      have := (List.getElem?_eq_some_iff.1 hx).1
      rwa [nums_length, bytesOf_length] at this
    rw [Lib.bytesWorld_cell w U8 s j hj]
    have hj' : j < s.data.toList.length := by rw [data_length]; exact hj
    simp [nums, bytesOf, List.getElem?_map, List.getElem?_eq_getElem hj'] at hx
    rw [List.getD_eq_getElem?_getD, List.getElem?_eq_getElem hj']
    simpa using hx) (one_nums _ _) (by rw [nums_length]; exact hl)).mono ?_
  rintro e w2 ⟨rfl, hb2, hw2, ho2⟩
  have H2 := Lib.hid (And.intro hb2 (And.intro hw2 ho2))
  clear hb2 hw2 ho2
  go_wp2
  go_ret2
  obtain ⟨hb2, hw2, ho2⟩ := H2.out
  refine ⟨rfl, ?_, ?_, ?_⟩
  · unfold Buf
    rw [nums_append]
    exact hb2
  · exact (HBW.out.mono hB).trans hw2
  · refine Lib.OthersKept.trans ?_ ho2
    intro i o hi _ _
    exact (HBW.out.block i (lt_of_heap hi)).trans hi

theorem join_any (A : Option Addr) (cap : Nat) (xs : List ByteArray) (c : UInt8) (w : World) (hC : Kd.string.C w A xs.length xs) (hne : xs ≠ []) (hcap : xs.length ≤ cap) (hb : bulkT xs ≤ 140737488355328) :
    Calls Try.prog 63 #[.slice A xs.length cap, .string (one c)] w fun e w' => e = .returned (.string (pj c xs xs.length)) ∧ Below w.heap.size w w' := by
  have h0 : 0 < xs.length := List.length_pos_iff.2 hne
  obtain ⟨ad, rfl, hs⟩ := strs_at hC 0 h0
  have hsp : ad.spot = none := by
    have hz : ad.add 0 = ad := by simp [Addr.add]
    rw [hz] at hs
    unfold World.cell? at hs
    split at hs
    · split at hs
      · cases hs
      · rename_i h; simpa using h
    · cases hs
  obtain ⟨bk, o, sp⟩ := ad
  obtain rfl : sp = none := hsp
  have hlt : bk < w.heap.size := World.block_lt_of_cell? w _ hs
  have hxl : xs.length ≤ bulkT xs := by
    have : ∀ ys : List ByteArray, ys.length ≤ bulkT ys := fun ys => by
      induction ys with
      | nil => simp
      | cons y r ih => unfold bulkT at ih ⊢; simp only [List.map_cons, List.sum_cons, List.length_cons]; omega
    exact this xs
  have hj := jn_bulk c xs
  have hp : pj c xs xs.length = ⟨(Lib.join (xs.map (·.data.toList)) (one c).data.toList).toArray⟩ := by
    unfold pj
    rw [List.take_length]
    show ofL _ = ofL _
    congr 1
    exact (jn_join c _).symm
  rw [hp]
  refine Try.strings_Join bk o cap xs (one c) w (fun j x hx => ?_) hlt (by omega) hcap ?_
  · obtain ⟨hjl, rfl⟩ := List.getElem?_eq_some_iff.1 hx
    obtain ⟨ad', had, hcell⟩ := strs_at hC j hjl
    obtain rfl := Option.some.inj had
    have : (⟨bk, o, none⟩ : Addr).add j = ⟨bk, o + j, none⟩ := by unfold Addr.add; split <;> simp_all
    rw [this] at hcell
    exact hcell
  · show (Lib.join (xs.map toL) [c]).length ≤ _
    rw [jn_join]
    omega
end Go.Proofs.Ytaniafohcaiedaa.Tx
