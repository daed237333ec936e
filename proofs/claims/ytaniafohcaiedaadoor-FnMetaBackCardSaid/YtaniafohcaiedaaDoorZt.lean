/-
  The walk of zzText (dict) into a bytes.Buffer.
-/
import Derived.Test.YtaniafohcaiedaaDoorZw
import Derived.Test.YtaniafohcaiedaaDoorRd
import Derived.Lib.ConvBytes
set_option linter.unusedVariables false
set_option linter.unusedSimpArgs false
namespace Go.Proofs.YtaniafohcaiedaaDoor.Zt
open Go.RowKit Go.Proofs.YtaniafohcaiedaaDoor.K Go.Proofs.YtaniafohcaiedaaDoorW.PrintWords Go.Proofs.YtaniafohcaiedaaDoor.Z

theorem buf_keeps {B b : Nat} {xs : List Int} {S : Nat → Prop} {w w' : World} (h : Buf B b xs w) (k : Keeps S w w') (hb : ¬ S b) (hS : ∀ i, i < w.heap.size → S i → ∀ cs fr, w.heap[i]? ≠ some (.cells cs U8 fr)) : Buf B b xs w' := by
  obtain ⟨hB, v, lr, hbk, hown, hne⟩ := h
  refine ⟨hB, v, lr, hbk.of_heap (k.block _ hbk.lt hb), own_move hown (fun i hi => ?_), hne⟩
  obtain ⟨cells, hc⟩ := own_typed hown i hi
  exact k.block _ (lt_of_heap hc) (fun hs => hS i (lt_of_heap hc) hs _ _ hc)

theorem bytesOf_append (a b : ByteArray) : bytesOf (a ++ b) = bytesOf a ++ bytesOf b := by simp [bytesOf, ByteArray.data_append]
theorem bw_below (w : World) (e : TypeId) (s : ByteArray) : Below w.heap.size w (Lib.bytesWorld w e s) := bytes_below (Below.refl _ _) (Nat.le_refl _) e s

set_option maxHeartbeats 1000000 in
set_option maxRecDepth 5000 in
theorem text_any (B b : Nat) (xs : List Int) (s : ByteArray) (w : World) (hb : Buf B b xs w) (hB : B ≤ w.heap.size) (hl : xs.length + s.size ≤ 140737488355328) :
    Calls Tryd.prog 87 #[.iface 82 (.pointer (some ⟨b, 0, none⟩)), .string s] w fun e w' => e = .returned (.tuple #[.int .i64 s.size, .nilIface]) ∧ Buf B b (xs ++ bytesOf s) w' ∧ Below B w w' ∧ Lib.OthersKept U8 (some b) w w' := by
  have hcv : ∀ W : World, (convert 9 25 (.string s)).run Tryd.prog W = .ok (.slice (some ⟨W.heap.size, 0, none⟩) s.size (grownCap W s.size 0 U8)) (Lib.bytesWorld W U8 s) := print_bytes 9 25 5 Tryd.underlying9 Tryd.underlying25 Tryd.underlying5 s
  have hbw := bw_below w U8 s
  have hblt : b < w.heap.size := hb.lt
  have hb0 : Buf B b xs (Lib.bytesWorld w U8 s) := buf_keeps hb (S := fun i => w.heap.size ≤ i) (Keeps.of_below hbw) (by omega) (fun i hi hs => by omega)
  have HB0 := Lib.hid hb0
  have HBW := Lib.hid hbw
  have hsz : (Lib.bytesWorld w U8 s).heap.size = w.heap.size + 1 := Lib.bytesWorld_size w U8 s
  clear hb hb0 hbw
  go_enter Tryd.func87, Tryd.ntmps87
  go_wp2_with fail
  refine (Tryd.Buffer_Write_at tBuf (fun _ => none) B b 0 (nums .u8 xs) (nums .u8 (bytesOf s)) ⟨w.heap.size, 0, none⟩ s.size _ (Lib.bytesWorld w U8 s) HB0.out (by omega) (one_nums _ _) (by rw [nums_length, bytesOf_length]) (by show w.heap.size ≠ b; omega) (fun j x hx => by
    rw [add_plain]
    have hj : j < s.size := by
      have := (List.getElem?_eq_some_iff.1 hx).1
      rwa [nums_length, bytesOf_length] at this
    rw [Lib.bytesWorld_cell w U8 s j hj]
    have hj' : j < s.data.toList.length := by rw [data_length]; exact hj
    simp [nums, bytesOf, List.getElem?_map, List.getElem?_eq_getElem hj'] at hx
    rw [List.getD_eq_getElem?_getD, List.getElem?_eq_getElem hj']
    simpa using hx) (one_nums _ _) (by rw [nums_length]; exact hl)).mono ?_
  rintro e w2 ⟨rfl, hb2, hw2, ho2⟩
  have H2 := Lib.hid (And.intro hb2 (And.intro hw2 ho2))
  clear hb2 hw2 ho2
  go_wp2
  go_ret2
  obtain ⟨hb2, hw2, ho2⟩ := H2.out
  refine ⟨rfl, ?_, ?_, ?_⟩
  · unfold Buf
    rw [nums_append]
    exact hb2
  · exact (HBW.out.mono hB).trans hw2
  · refine Lib.OthersKept.trans ?_ ho2
    intro i o hi _ _
    exact (HBW.out.block i (lt_of_heap hi)).trans hi

end Go.Proofs.YtaniafohcaiedaaDoor.Zt
