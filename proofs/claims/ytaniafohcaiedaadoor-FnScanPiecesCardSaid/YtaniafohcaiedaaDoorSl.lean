/-
  laws.readable: what it tells; the decoder at every place of a text; runes of a text and texts of runes.
-/
import Derived.Test.YtaniafohcaiedaaDoorSk
import Derived.Test.YtaniafohcaiedaaDoorDec
import Derived.Test.YtaniafohcaiedaaDoorRows
import Derived.Stop.FmtQuoteTie
import Derived.Lib.TrimUEq
import Derived.Lib.LaidU8T
import Derived.Laws.RangeAny
import Derived.Laws.Cover4
import Derived.Laws.IdiomStrings
set_option linter.unusedVariables false
set_option linter.unusedSimpArgs false
namespace Go.Proofs.YtaniafohcaiedaaDoor.Sn
open Go.RowKit Go.Proofs.YtaniafohcaiedaaDoor.K Go.Proofs.YtaniafohcaiedaaDoorW.PrintWords
open Go.Lib (decodeL encodeRune)

/-! ### Bytes of a rune -/
theorem encode_nat (r : Nat) : (Utf8.encode (r : Int)).data.toList = encodeRune (r : Int) := by
  have h := Go.Extern.FmtText.encode_eq r
  unfold encodeRune
  rw [← h]
  unfold Go.Extern.FmtText.nums
  rw [List.map_map]
  have : ∀ l : List UInt8, List.map ((fun x : Int => x.toNat.toUInt8) ∘ fun x : UInt8 => (x.toNat : Int)) l = l := by
    intro l
    induction l with
    | nil => rfl
    | cons a t ih => rw [List.map_cons, ih]; simp
  rw [this]
theorem bytesL_cons (r : Int) (rs : List Int) : bytesL (r :: rs) = encodeRune r ++ bytesL rs := by simp [bytesL]
theorem runesBytes_eq : ∀ (ns : List Nat), runesBytes (ns.map fun n : Nat => (n : Int)) = ⟨(bytesL (ns.map fun n : Nat => (n : Int))).toArray⟩ := by
  have key : ∀ (ns : List Nat) (a : ByteArray), ((ns.map fun n : Nat => (n : Int)).foldl (fun r n => r ++ Utf8.encode n) a).data.toList = a.data.toList ++ bytesL (ns.map fun n : Nat => (n : Int)) := by
    intro ns
    induction ns with
    | nil => intro a; simp [bytesL]
    | cons n t ih =>
      intro a
      rw [List.map_cons, List.foldl_cons, ih, bytesL_cons, ByteArray.data_append, Array.toList_append, encode_nat, List.append_assoc]
  intro ns
  apply ba_ext
  apply Array.ext'
  rw [runesBytes, key]
  rfl
theorem rnL_nats : ∀ (k : Nat) (l : List UInt8), l.length ≤ k → ∃ ns : List Nat, rnL l = ns.map fun n : Nat => (n : Int)
  | 0, l, h => ⟨[], by rw [List.length_eq_zero_iff.1 (Nat.le_zero.1 h), rnL_nil]; rfl⟩
  | k + 1, l, h => by
    by_cases h0 : l = []
    · exact ⟨[], by rw [h0, rnL_nil]; rfl⟩
    · have hw := Go.Lib.decodeL_width l
      have hp := List.length_pos_iff.2 h0
      obtain ⟨ns, hn⟩ := rnL_nats k (l.drop (decodeL l).2) (by rw [List.length_drop]; omega)
      exact ⟨(decodeL l).1 :: ns, by rw [rnL_cons h0, hn]; rfl⟩
/-- The text of some of a text's runes. -/
theorem runesBytes_rnL (l : List UInt8) (rs : List Int) (h : ∃ a b, rnL l = a ++ rs ++ b) : runesBytes rs = ⟨(bytesL rs).toArray⟩ := by
  obtain ⟨a, b, h⟩ := h
  obtain ⟨ns, hn⟩ := rnL_nats _ l (Nat.le_refl _)
  obtain ⟨x, y, hxy, hx, hy⟩ := List.map_eq_append_iff.1 (hn.symm.trans h)
  obtain ⟨x1, x2, hx12, h1, h2⟩ := List.map_eq_append_iff.1 hx
  rw [← h2]
  exact runesBytes_eq x2

/-! ### Runes of a text -/
theorem runes_rnL (s : ByteArray) : ∀ (b pos : Nat) (acc : Array Value), s.size ≤ pos + b → (Conv.runesFrom s b pos acc).toList = acc.toList ++ (rnL (s.data.toList.drop pos)).map (Value.int .i32)
  | 0, pos, acc, h => by
    have hz : s.data.toList.length = s.size := data_length s
    rw [List.drop_of_length_le (by omega), rnL_nil]
    simp [Conv.runesFrom]
  | b + 1, pos, acc, h => by
    have hz : s.data.toList.length = s.size := data_length s
    by_cases hp : pos < s.size
    · have hne : s.data.toList.drop pos ≠ [] := by intro e; have := congrArg List.length e; simp at this; omega
      have hd := Go.Lib.decodeL_drop s pos
      have hw := Go.Lib.decodeL_width (s.data.toList.drop pos)
      rw [rnL_cons hne, hd, List.drop_drop]
      rw [hd] at hw
      have ih := runes_rnL s b (pos + (Utf8.decode s pos).2) (acc.push (.int .i32 (Int.ofNat (Utf8.decode s pos).1))) (by omega)
      rw [Conv.runesFrom, if_pos hp]
      simp only []
      rw [ih]
      simp
    · rw [List.drop_of_length_le (by omega), rnL_nil, Conv.runesFrom, if_neg hp]
      simp
theorem runes_of (s : ByteArray) : Conv.runesFrom s s.size 0 #[] = ((rnL s.data.toList).map (Value.int .i32)).toArray := by
  apply Array.ext'
  rw [runes_rnL s s.size 0 #[] (by omega)]
  simp

/-! ### The decoder -/
theorem decode_same {s t : ByteArray} {i j : Nat} (hn : s.size - i = t.size - j) (h : ∀ k, i + k < s.size → s.get! (i + k) = t.get! (j + k)) : Utf8.decode s i = Utf8.decode t j := by
  have hL : s.data.toList.drop i = t.data.toList.drop j := by
    have hs : s.data.toList.length = s.size := data_length s
    have ht : t.data.toList.length = t.size := data_length t
    apply List.ext_getElem
    · simp only [List.length_drop]; omega
    · intro k h1 h2
      simp only [List.length_drop] at h1 h2
      have := h k (by omega)
      simp only [List.getElem_drop, Array.getElem_toList]
      rw [ByteArray.get!, ByteArray.get!, getElem!_pos s.data (i + k) (by simpa using (show i + k < s.data.size by have : s.data.size = s.size := rfl; omega)), getElem!_pos t.data (j + k) (by have : t.data.size = t.size := rfl; omega)] at this
      exact this
  rw [← Go.Lib.decodeL_drop, ← Go.Lib.decodeL_drop, hL]
theorem tabs_keep {w w1 : World} (h : Lib.Utf8Tabs 1 2 w) (hb : Below w.heap.size w w1) : Lib.Utf8Tabs 1 2 w1 :=
  ⟨fun c hc => (hb.cell (World.block_lt_of_cell? _ _ (h.1 c hc))).trans (h.1 c hc), fun i hi => ⟨(hb.cell (World.block_lt_of_cell? _ _ (h.2 i hi).1)).trans (h.2 i hi).1, (hb.cell (World.block_lt_of_cell? _ _ (h.2 i hi).2)).trans (h.2 i hi).2⟩⟩
theorem utf8_decodes {s : ByteArray} {w0 : World} {g C : Nat} (hT : Lib.Utf8Tabs 1 2 w0) (h : ∀ j, j < s.size → w0.cell? ⟨g, j, none⟩ = some (.int .u8 (bt s j))) : DecodesT w0 g s.size C (decT s.data.toList) := by
  intro q hq
  have hz : s.data.toList.length = s.size := data_length s
  have hd := decT_le s.data.toList (q := q) (by omega)
  refine ⟨hd.1, by omega, fun W hW => ?_⟩
  obtain ⟨t, ht⟩ : ∃ t : ByteArray, t = s.extract q s.size := ⟨_, rfl⟩
  have htz : t.size = s.size - q := by rw [ht]; simp
  have hget : ∀ k, q + k < s.size → s.get! (q + k) = t.get! k := by
    intro k hk
    have h1 : k < t.size := by omega
    rw [ht] at h1 ⊢
    simp only [ByteArray.get!, ByteArray.data_extract]
    have e1 : s.data.size = s.size := rfl
    rw [getElem!_pos s.data _ (by omega), getElem!_pos (s.data.extract q s.size) k (by simpa using h1), Array.getElem_extract]
  have hc := Tryd.utf8_DecodeRune t g q (C - q) W (tabs_keep hT hW) (fun j hj => by
    have hlt : q + j < s.size := by omega
    rw [hW.cell (World.block_lt_of_cell? _ _ (h _ hlt)), h _ hlt, ← hget j hlt]
    have e1 : s.data.size = s.size := rfl
    rw [bt, dif_pos (show ((q + j : Nat) : Int).toNat < s.size by omega), ByteArray.get!, getElem!_pos s.data _ (by omega)]
    rfl)
  rw [htz] at hc
  have hdec : Lib.decodeGo t = decodeL (s.data.toList.drop q) := by
    rw [Lib.decodeGo, if_neg (by omega), Go.Lib.decodeL_drop]
    symm
    exact decode_same (by omega) (fun k hk => by rw [hget k hk, Nat.zero_add])
  rw [hdec] at hc
  exact hc

/-! ### readable -/
theorem below_iter (w : World) (s : ByteArray) (p : Nat) : Below w.heap.size w (w.iter s p) := below_alloc (Below.refl _ _) _

set_option maxHeartbeats 1000000 in
set_option maxRecDepth 5000 in
theorem readable_any (s : ByteArray) (hs : s.size ≤ 9223372036854775807) (w : World) : Calls Tryd.prog 24 #[.string s] w (BoolIf (GoodL s.data.toList ∧ s.size ≤ 300) w) := by
  have hz : s.data.toList.length = s.size := data_length s
  go_enter Tryd.func24, Tryd.ntmps24
  go_wp2_with fail
  go_loopw [] (fun wr => ∃ pos : Nat, wr = w.iter s pos ∧ (GoodL (s.data.toList.drop pos) → GoodL s.data.toList)) (fun wr => s.size - wr.iterPos w.heap.size)
  case atStart => exact ⟨0, rfl, fun h => h⟩
  case round =>
    obtain ⟨pos, rfl, hg⟩ := hrel
    by_cases hp : pos < s.size
    · have hnx : ∀ ty, (Instr.next (.pointer (some ⟨w.heap.size, 0, none⟩)) true ty).run Tryd.prog (w.iter s pos) = _ := fun ty => run_next_any w s pos ty hp
      have hne : s.data.toList.drop pos ≠ [] := by intro e; have := congrArg List.length e; simp at this; omega
      have hw := Go.Lib.decodeL_width (s.data.toList.drop pos)
      have hd := Go.Lib.decodeL_drop s pos
      have hgc : (decodeL (s.data.toList.drop pos)).1 ≠ 65533 → GoodL ((s.data.toList.drop pos).drop (decodeL (s.data.toList.drop pos)).2) → GoodL s.data.toList := fun h1 h2 => hg (.cons _ hne h1 h2)
      rw [hd, List.drop_drop] at hgc
      rw [hd] at hw
      clear hd hg
      by_cases hr : (Utf8.decode s pos).1 = 65533
      · go_wp2_with fail
        go_ret
        exact ⟨false, by simp, by simp, below_iter _ _ _⟩
      · have hgc := hgc hr
        have hri : ¬ ((Utf8.decode s pos).1 : Int) = 65533 := by omega
        go_wp2_with fail
        go_roundw
        case rel => exact ⟨_, rfl, hgc⟩
        case measure => simp; omega
    · have hnx : ∀ ty, (Instr.next (.pointer (some ⟨w.heap.size, 0, none⟩)) true ty).run Tryd.prog (w.iter s pos) = _ := fun ty => run_next_end w s pos ty hp
      have hgd : GoodL s.data.toList := hg (by rw [List.drop_of_length_le (by omega)]; exact .nil)
      clear hg
      by_cases hl : s.size ≤ 300
      · go_wp2_with fail
        go_ret
        exact ⟨true, by simp; omega, fun _ => ⟨hgd, hl⟩, below_iter _ _ _⟩
      · go_wp2_with fail
        go_ret
        exact ⟨false, by simp; omega, by simp, below_iter _ _ _⟩

/-! ### The tables, as the rows lay them -/
def U8ren : Go.Shelf.Ren := ⟨fun n => n, fun | 5 => 5 | 119 => 161 | 138 => 163 | 139 => 164 | n => n, fun | 3 => 1 | 4 => 2 | n => n⟩
theorem tabs_of {W : World} {l : List (String × DataW Unit)} (h : laidMet Tryd.prog l W) (h1 : ("unicode/utf8.first", Rows.laid_unicode_utf8_first) ∈ l) (h2 : ("unicode/utf8.acceptRanges", Rows.laid_unicode_utf8_acceptRanges) ∈ l) : Lib.Utf8Tabs 1 2 W := by
  have e1 : Rows.laid_unicode_utf8_first = Lib.firstData := by kernel_rfl
  have e2 : (Rows.laid_unicode_utf8_acceptRanges : DataW Unit) = Lib.acceptData := by kernel_rfl
  rw [e1] at h1
  rw [e2] at h2
  exact utf8Tabs_of_readsT (P := Tryd.prog) (ρ := U8ren) ⟨Tryd.underlying5, Tryd.underlying161, Tryd.underlying163, Tryd.underlying164⟩ ⟨by kernel_rfl, by kernel_rfl, by kernel_rfl, by kernel_rfl, by kernel_rfl, by kernel_rfl, by kernel_rfl⟩ (Lib.laidMet.reads h h1) (Lib.laidMet.reads h h2)
end Go.Proofs.YtaniafohcaiedaaDoor.Sn
