/-
  slices.Sorted(maps.Keys(s)) AT THIS DUMP: the shelf's contracts (the text that the kit's lay-iter tool writes for this dump; the layings in plain words: Qxb6612211aLays).
-/
import Derived.Test.Qxb6612211aLays
namespace Go.Proofs
open Go.RowKit Go.Maps Go.Sort Go.Shelf


/-- slices.Sort's two contracts at this dump, at the fence that asks nothing. -/
theorem Try.sorts14 (m : Nat) : AnyZ.SortsIn Try.prog Try.sorted14_ren Fence.wide m :=
  ⟨fun blk off cap ss W hH hblk hsz => callsIn_wide.2 (AnyM.slices_Sort_string Try.sort17 blk off cap ss W hH hblk hsz),
   fun p cap W => callsIn_wide.2 (AnyM.slices_Sort_string_none Try.sort17 p cap W)⟩

/-- **maps.Keys at the set type, at whatever map, the nil one too:** a function value over ONE NEW BLOCK, which holds the map. -/
theorem Try.maps_Keys_15 (mb : Option Nat) (W : World) : CallsIn Fence.wide 5 Try.prog 15 #[.map mb] W fun e w' => e = .returned (.func (.func 18) #[] #[.pointer (some ⟨W.heap.size, 0, none⟩)]) ∧ w' = W.alloc (.cells #[.map mb] 51) :=
  AnyZ.keys_in Try.keys15 Fence.wide 5 trivial rfl mb W

set_option maxHeartbeats 1000000 in
/-- **slices.Sorted[string] AT WHAT maps.Keys at the set type HANDED BACK FOR A MAP THAT IS NOT nil** ('w': the world AHEAD of maps.Keys' call): A NEW SLICE THAT HOLDS THE MAP's KEYS, SORTED; nil just where it has none; nothing that lay before has turned. -/
theorem Try.slices_Sorted_keys_14_15 {H : Type} (b nn : Nat) (D0 : DataW H) (R : Value → Option (DataW H × List MemPlace)) (w : World) (hown : w.ownsMap Try.prog 9 R b nn D0) (hmax : Maps.size D0 ≤ maxLen) (hbytes : Maps.size D0 * 16 ≤ 140737488355328) :
    CallsIn Fence.wide 5 Try.prog 14 #[.func (.func 18) #[] #[.pointer (some ⟨w.heap.size, 0, none⟩)]] (w.alloc (.cells #[.map (some b)] 51)) fun e w' => ∃ (v : Value) (ss : List (List UInt8)), e = .returned v ∧ ss.Perm (strKeys D0) ∧
      w'.ownsRow (w.alloc (.cells #[.map (some b)] 51)).heap.size 9 1 v ss.length ((ss.mergeSort (fun x y => decide (x ≤ y))).map encStr) ∧ (v = .slice none 0 0 ↔ ss = []) ∧ Below (w.alloc (.cells #[.map (some b)] 51)).heap.size (w.alloc (.cells #[.map (some b)] 51)) w' := by
  have hbl := hown.lt
  have hseq : SeqGives Fence.wide 2 Try.prog 18 #[.pointer (some ⟨w.heap.size, 0, none⟩)] encStr (fun ss => ss.Perm (strKeys D0)) (Maps.size D0) (w.alloc (.cells #[.map (some b)] 51)) :=
    AnyZ.keys_gives (ρ := Try.keys15_ren) { Try.keys15 with } Fence.wide _ trivial rfl (by omega) w.heap.size b nn D0 _ (by simp) (by simp) (by
      obtain ⟨es, clock, hb, Ft, hs, hD⟩ := hown
      exact ⟨es, clock, (Below.heap_alloc _ _ b hbl).trans hb, Ft, hs, hD⟩)
  exact AnyZ.sorted_in Try.sorted14 Fence.wide 5 trivial trivial trivial trivial rfl (by omega) (Try.sorts14 _) (enters_of Try.func17 (by kernel_rfl) rfl) 18 #[.pointer (some ⟨w.heap.size, 0, none⟩)] trivial (enters_of Try.func18 (by kernel_rfl) rfl) _ _ hmax hbytes _ hseq

end Go.Proofs
