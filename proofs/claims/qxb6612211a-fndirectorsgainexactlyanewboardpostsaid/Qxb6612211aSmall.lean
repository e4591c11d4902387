/-
  Small contracts of the seat b6612211a: onBoard, OnBoard, ZZnewDay, add, members.
-/
import Derived.Test.Qxb6612211aIter
import Derived.Test.Qxb6612211aGroups
import Derived.WalkKit
import Derived.ProofKit
import Derived.WalkLawsBesides
import Derived.Maps.OwnSet
import Derived.Below
import Derived.WalkSpells
namespace Go.Proofs.Qxb6612211a
open Go.RowKit Go.Maps Go.Sort Go.Shelf

/-- The board's three roles, on the bytes. -/
def boardB (s : ByteArray) : Bool :=
  s.toList == [100, 105, 114, 101, 99, 116, 111, 114] || s.toList == [99, 104, 97, 105, 114] || s.toList == [105, 110, 100, 101, 112, 101, 110, 100, 101, 110, 116, 45, 100, 105, 114, 101, 99, 116, 111, 114]

theorem onBoard_any (s : ByteArray) (w : World) : Calls Try.prog 9 #[.string s] w fun e w' => e = .returned (.bool (boardB s)) ∧ w' = w := by
  go_enter Try.func9, Try.ntmps9
  go_wp2
  all_goals (go_ret; exact ⟨by simp [boardB, *], rfl⟩)

theorem roleOnBoard_any (s : ByteArray) (w : World) : Calls Try.prog 11 #[.string s] w fun e w' => e = .returned (.bool (boardB s)) ∧ w' = w := by
  go_enter Try.func11, Try.ntmps11
  go_wp2
  all_goals (go_ret; exact ⟨by simp [boardB, *], rfl⟩)

theorem newDay_any (s : ByteArray) (m : Option Nat) (w : World) : Calls Try.prog 6 #[.string s, .map m] w fun e w' => e = .returned (.pointer (some ⟨w.heap.size + 2, 0, none⟩)) ∧
    w' = ((w.alloc (.cells #[.string s, .slice none 0 0, .slice none 0 0, .map none, .slice none 0 0] 42)).alloc
      (.cells #[.pointer (some ⟨w.heap.size, 0, none⟩), .map none, .map none, .map none, .map m, .map none, .map none, .map none, .map none, .map none] 47)).alloc
      (.cells #[.pointer (some ⟨w.heap.size + 1, 0, none⟩), .int .i32 0, .map none] 53) := by
  go_enter Try.func6, Try.ntmps6
  go_wp2
  go_ret
  exact ⟨rfl, rfl⟩

/-- 'directors.add(id)': one id, which lies in a block of its own. -/
theorem add_one {H : Type} (b n : Nat) (D : DataW H) (g : Nat) (s : ByteArray) (hs : s.size ≤ maxLen) (hn : n < maxLen) (w : World) (hown : w.ownsMap Try.prog 9 (plainElem Try.prog 4) b n D) (hc : w.cell? ⟨g, 0, none⟩ = some (.string s)) :
    Calls Try.prog 12 #[.map (some b), .slice (some ⟨g, 0, none⟩) 1 1] w fun e w' => e = .returned (.tuple #[]) ∧ w'.ownsMap Try.prog 9 (plainElem Try.prog 4) b (n + 1) (D.put (.string s.data.toList) (.lit (.bool true))) ∧ w.grownBy w' (some b) := by
  go_enter Try.func12, Try.ntmps12
  go_wp2
  refine wp_loop_rounds 2 ?_
  rw [rounds_succ]
  go_wp2_with (at_mapUpdate; go_must (refine wpList_mapUpdate_own _ rfl _ _ _ 51 rfl 9 4 law9 Try.underlying51 _ b n _ rfl hown hn _ _ _ rfl rfl (WideMaps.keyOf_string_mk Try.underlying9 hs) _ [] (plainElem_bool Try.underlying4 true) ?_); intro w1 hown1 hgrow1)
  rw [rounds_succ]
  go_wp2
  go_end0
  exact ⟨rfl, hown1, hgrow1⟩

set_option maxHeartbeats 1000000 in
/-- 'directors.members()': a new slice that holds the set's ids, sorted. -/
theorem members_any {H : Type} (b nn : Nat) (D0 : DataW H) (R : Value → Option (DataW H × List MemPlace)) (w : World) (hown : w.ownsMap Try.prog 9 R b nn D0) (hmax : Maps.size D0 ≤ maxLen) (hbytes : Maps.size D0 * 16 ≤ 140737488355328) :
    Calls Try.prog 13 #[.map (some b)] w fun e w' => ∃ (v : Value) (ss : List (List UInt8)), e = .returned v ∧ ss.Perm (strKeys D0) ∧
      w'.ownsRow w.heap.size 9 1 v ss.length ((ss.mergeSort (fun x y => decide (x ≤ y))).map encStr) ∧ (v = .slice none 0 0 ↔ ss = []) ∧ Below w.heap.size w w' := by
  refine (callsIn_wide (n := 6)).1 ?_
  have hfK : Fence.wide.fn 15 := trivial
  have hfS : Fence.wide.fn 14 := trivial
  refine callsIn_of_wp Try.func13 rfl trivial ?_ rfl
  simp only [Try.ntmps13, List.size_toArray, List.length_cons, List.length_nil, Nat.reduceAdd, Nat.reduceSub, Array.replicate_succ, Array.replicate_zero, List.push_toArray, List.append_toArray, List.nil_append, List.cons_append]
  gi_wp2_with (first
    | (gi_at_call 15; refine (Try.maps_Keys_15 _ _).mono ?_; rintro e w' ⟨rfl, rfl⟩)
    | (gi_at_call 14; refine (Try.slices_Sorted_keys_14_15 b nn D0 R w hown hmax hbytes).mono ?_; rintro e w' ⟨v, ss, rfl, hS, hrow, hnil, hb⟩))
  go_ret
  exact ⟨v, ss, rfl, hS, ownsRow_base_a hrow (by simp), hnil, ((Below.refl _ w).alloc (Nat.le_refl _) _).trans (hb.mono (by simp))⟩

end Go.Proofs.Qxb6612211a
