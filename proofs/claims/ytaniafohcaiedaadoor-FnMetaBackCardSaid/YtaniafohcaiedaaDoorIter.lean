/-
  slices.Sorted(maps.Keys(m)) at this dump (printed by lay-iter.mjs; the layings in plain words).
-/
import Derived.Test.YtaniafohcaiedaaDoorLay
namespace Go.Proofs
open Go.RowKit Go.Maps Go.Sort Go.Shelf

-- maps.Keys[pub-kaeriten/pub/kagomedict/dict.ContentsMeta,string,int8] (function 77; its iterator 86) · slices.Sorted[string] (76) · slices.Sort[[]string,string] (85) · the map's type 111, the keys' 9

/-- slices.Sort's two contracts at this dump, at the fence that asks nothing. -/
theorem Tryd.sorts76 (m : Nat) : AnyZ.SortsIn Tryd.prog Tryd.sorted76_ren Fence.wide m :=
  ⟨fun blk off cap ss W hH hblk hsz => callsIn_wide.2 (AnyM.slices_Sort_string Tryd.sort85 blk off cap ss W hH hblk hsz),
   fun p cap W => callsIn_wide.2 (AnyM.slices_Sort_string_none Tryd.sort85 p cap W)⟩

/-- **maps.Keys[pub-kaeriten/pub/kagomedict/dict.ContentsMeta,string,int8], at whatever map, the nil one too:** a function value over ONE NEW BLOCK, which holds the map. -/
theorem Tryd.maps_Keys_77 (mb : Option Nat) (W : World) : CallsIn Fence.wide 5 Tryd.prog 77 #[.map mb] W fun e w' => e = .returned (.func (.func 86) #[] #[.pointer (some ⟨W.heap.size, 0, none⟩)]) ∧ w' = W.alloc (.cells #[.map mb] 111) :=
  AnyZ.keys_in Tryd.keys77 Fence.wide 5 trivial rfl mb W

set_option maxHeartbeats 1000000 in
/-- **slices.Sorted[string] AT WHAT maps.Keys[pub-kaeriten/pub/kagomedict/dict.ContentsMeta,string,int8] HANDED BACK FOR A MAP THAT IS NOT nil** ('w': the world AHEAD of maps.Keys' call): A NEW SLICE THAT HOLDS THE MAP's KEYS, SORTED; nil just where it has none; nothing that lay before has turned. -/
theorem Tryd.slices_Sorted_keys_76_77 {H : Type} (b nn : Nat) (D0 : DataW H) (R : Value → Option (DataW H × List MemPlace)) (w : World) (hown : w.ownsMap Tryd.prog 9 R b nn D0) (hmax : Maps.size D0 ≤ maxLen) (hbytes : Maps.size D0 * 16 ≤ 140737488355328) :
    CallsIn Fence.wide 5 Tryd.prog 76 #[.func (.func 86) #[] #[.pointer (some ⟨w.heap.size, 0, none⟩)]] (w.alloc (.cells #[.map (some b)] 111)) fun e w' => ∃ (v : Value) (ss : List (List UInt8)), e = .returned v ∧ ss.Perm (strKeys D0) ∧
      w'.ownsRow (w.alloc (.cells #[.map (some b)] 111)).heap.size 9 1 v ss.length ((ss.mergeSort (fun x y => decide (x ≤ y))).map encStr) ∧ (v = .slice none 0 0 ↔ ss = []) ∧ Below (w.alloc (.cells #[.map (some b)] 111)).heap.size (w.alloc (.cells #[.map (some b)] 111)) w' := by
  have hbl := hown.lt
  have hseq : SeqGives Fence.wide 2 Tryd.prog 86 #[.pointer (some ⟨w.heap.size, 0, none⟩)] encStr (fun ss => ss.Perm (strKeys D0)) (Maps.size D0) (w.alloc (.cells #[.map (some b)] 111)) :=
    AnyZ.keys_gives (ρ := Tryd.keys77_ren) { Tryd.keys77 with } Fence.wide _ trivial rfl (by omega) w.heap.size b nn D0 _ (by simp) (by simp) (by
      obtain ⟨es, clock, hb, Ft, hs, hD⟩ := hown
      exact ⟨es, clock, (Below.heap_alloc _ _ b hbl).trans hb, Ft, hs, hD⟩)
  exact AnyZ.sorted_in Tryd.sorted76 Fence.wide 5 trivial trivial trivial trivial rfl (by omega) (Tryd.sorts76 _) (enters_of Tryd.func85 (by kernel_rfl) rfl) 86 #[.pointer (some ⟨w.heap.size, 0, none⟩)] trivial (enters_of Tryd.func86 (by kernel_rfl) rfl) _ _ hmax hbytes _ hseq

set_option maxHeartbeats 1000000 in
/-- **.. AND FOR THE nil MAP: nil.** -/
theorem Tryd.slices_Sorted_keys_nil_76_77 (w : World) :
    CallsIn Fence.wide 5 Tryd.prog 76 #[.func (.func 86) #[] #[.pointer (some ⟨w.heap.size, 0, none⟩)]] (w.alloc (.cells #[.map none] 111)) fun e w' => ∃ (v : Value) (ss : List (List UInt8)), e = .returned v ∧ ss = [] ∧
      w'.ownsRow (w.alloc (.cells #[.map none] 111)).heap.size 9 1 v ss.length ((ss.mergeSort (fun x y => decide (x ≤ y))).map encStr) ∧ (v = .slice none 0 0 ↔ ss = []) ∧ Below (w.alloc (.cells #[.map none] 111)).heap.size (w.alloc (.cells #[.map none] 111)) w' := by
  have hseq : SeqGives Fence.wide 2 Tryd.prog 86 #[.pointer (some ⟨w.heap.size, 0, none⟩)] encStr (fun ss : List (List UInt8) => ss = []) 0 (w.alloc (.cells #[.map none] 111)) :=
    AnyZ.keys_gives_nil (ρ := Tryd.keys77_ren) { Tryd.keys77 with } Fence.wide _ trivial rfl w.heap.size _ (by simp) (by simp)
  exact AnyZ.sorted_in Tryd.sorted76 Fence.wide 5 trivial trivial trivial trivial rfl (by omega) (Tryd.sorts76 _) (enters_of Tryd.func85 (by kernel_rfl) rfl) 86 #[.pointer (some ⟨w.heap.size, 0, none⟩)] trivial (enters_of Tryd.func86 (by kernel_rfl) rfl) _ 0 (Nat.zero_le _) (by omega) _ hseq

-- THE CALLER's WALK over 'slices.Sorted(maps.Keys(m))' (inside '(callsIn_wide (n := 6)).1'; 'have hfK : Fence.wide.fn 77 := trivial', 'have hfS : Fence.wide.fn 76 := trivial' ahead): THE TWO ARMS TO PASTE:
--   gi_wp2_with (first
--     | (gi_at_call 77; refine (Tryd.maps_Keys_77 _ _).mono ?_; rintro e w' ⟨rfl, rfl⟩)
--     | (gi_at_call 76; refine (Tryd.slices_Sorted_keys_76_77 b nn D0 R w hown hmax hbytes).mono ?_; rintro e w' ⟨v, ss, rfl, hS, hrow, hnil, hb⟩))


end Go.Proofs
