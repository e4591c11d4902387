/-
  countDistinctAsked at no entries; sameAnswer. Seat b6612213a.
-/
import Derived.Test.Qxb6612213aCount
namespace Go.Proofs.Qxb6612213a
open Go.RowKit Go.Maps

set_option maxHeartbeats 1000000 in
theorem count_none (a : Option Addr) (cap : Nat) (w : World) :
    Calls Try.prog 11 #[.slice a 0 cap] w fun e w' => e = .returned (.int .i64 (firsts (askedE [])).length) ∧ Below w.heap.size w w' := by
  obtain ⟨i0, hi, hz0, hz1, hz2⟩ := info_parts info35
  go_enter Try.func11, Try.ntmps11
  go_wp2_with (at_make; go_must (refine wpList_make_own _ rfl _ _ 57 rfl w.heap.size 35 i0 _ 1 Try.underlying57 hi hz0 hz1 .i64 .i64 _ 0 rfl rfl (by omega) (by rw [hz2]; omega) (by unfold maxLen; omega) (Nat.le_refl _) ?_); intro w1 hown1 hgrow1)
  have hfin := (Below.refl w.heap.size w).grown hgrow1 (Nat.le_refl _) (fun j hj => by cases hj)
  clear hown1 hgrow1
  refine wp_loop_rounds 1 ?_
  rw [rounds_succ]
  go_wp2
  refine wp_loop_rounds 1 ?_
  rw [rounds_succ]
  go_wp2
  refine wp_loop_rounds 1 ?_
  rw [rounds_succ]
  go_wp2
  go_ret
  exact ⟨rfl, hfin⟩

theorem count_any (v : Value) (L : List Ent) (w : World) (hl : L.length ≤ 65536) (hL : Named L) (h : EntsIn w v L) :
    Calls Try.prog 11 #[v] w fun e w' => e = .returned (.int .i64 (firsts (askedE L)).length) ∧ Below w.heap.size w w' := by
  obtain ⟨a, cap, rfl, hn, h⟩ := h
  rcases h with rfl | ⟨g, off, rfl, hg, hc⟩
  · exact count_none a cap w
  · exact count_some g off cap L w hl hL ⟨hg, hc⟩

theorem drewN2 (w : World) (a b : Nat) : (w.drewN a).drewN b = w.drewN (a + b) := by simp [World.drewN, Nat.add_assoc]

/-- The answer for the group x, as a block's cells. -/
def ansArr (x : Int) : Array Value := #[.string ⟨#[81, 85, 79, 84, 65, 95, 77, 65, 78, 65, 71, 69, 77, 69, 78, 84, 95, 78, 79, 84, 95, 65, 80, 80, 76, 73, 67, 65, 66, 76, 69]⟩, .int .u32 x, .pointer none, .pointer none]

set_option maxHeartbeats 1000000 in
theorem same_any (x : Int) (w : World) :
    Calls Try.prog 12 #[.agg (ansArr x), .agg (ansArr x)] w fun e w' => e = .returned (.bool true) ∧ ∃ n, w' = ((w.alloc (.cells (ansArr x) 39)).alloc (.cells (ansArr x) 39)).drewN n := by
  unfold ansArr
  go_enter Try.func12, Try.ntmps12
  go_wp2
  go_quiet (fail)
  go_wp2
  go_quiet (fail)
  go_wp2
  go_ret
  exact ⟨rfl, _, drewN2 _ _ _⟩

end Go.Proofs.Qxb6612213a
