/-
  The test of size, ZZnewQueueHeap, ZZqueueHeapLen. Seat b6612290a.
-/
import Derived.Test.Qxb6612290aProg
import Derived.WalkKit
import Derived.ProofKit
import Derived.WalkLawsBesides
import Derived.WalkSpells
import Derived.Below
import Derived.KernelRfl
import Derived.Laws.OwnMore
import Derived.Deep.RegionHeld3
namespace Go.Proofs.Qxb6612290a
open Go.RowKit

theorem bytes_yes (a b : Option Addr) (n m c d : Nat) (h : n + m ≤ 1048576) (w : World) : Calls Try.prog 4 #[.slice a n c, .slice b m d] w fun e w' => e = .returned (.bool true) ∧ w' = w := by
  go_enter Try.func4, Try.ntmps4
  go_wp2
  go_ret
  exact ⟨rfl, rfl⟩
theorem bytes_no (a b : Option Addr) (n m c d : Nat) (hn : n ≤ maxLen) (hm : m ≤ maxLen) (h : 1048576 < n + m) (w : World) : Calls Try.prog 4 #[.slice a n c, .slice b m d] w fun e w' => e = .returned (.bool false) ∧ w' = w := by
  unfold maxLen at hn hm
  by_cases h1 : 1048576 < n
  · go_enter Try.func4, Try.ntmps4
    go_wp2
    go_ret
    exact ⟨rfl, rfl⟩
  · by_cases h2 : 1048576 < m
    · go_enter Try.func4, Try.ntmps4
      go_wp2
      go_ret
      exact ⟨rfl, rfl⟩
    · go_enter Try.func4, Try.ntmps4
      go_wp2
      go_ret
      exact ⟨rfl, rfl⟩

theorem len_any (a : Option Addr) (n c : Nat) (w : World) : Calls Try.prog 6 #[.slice a n c] w fun e w' => e = .returned (.int .i64 n) ∧ w' = w := by
  go_enter Try.func6, Try.ntmps6
  go_wp2
  go_ret
  exact ⟨rfl, rfl⟩

theorem info30 : (Try.prog.info? 30).map (fun i => (i.zero, i.size, i.bytes)) = some (some (.agg #[.int .i64 0, .int .i64 0]), 2, 16) := by kernel_rfl

set_option maxHeartbeats 1000000 in
theorem newHeap_some (gA oA cA gB oB cB n : Nat) (za zb : Nat → Int) (w : World) (hn : n ≤ 65536) (hA : gA < w.heap.size) (hB : gB < w.heap.size)
    (ca : ∀ i, i < n → w.cell? ⟨gA, oA + i, none⟩ = some (.int .i64 (za i))) (cb : ∀ i, i < n → w.cell? ⟨gB, oB + i, none⟩ = some (.int .i64 (zb i))) :
    Calls Try.prog 5 #[.slice (some ⟨gA, oA, none⟩) n cA, .slice (some ⟨gB, oB, none⟩) n cB] w fun e w' => e = .returned (.slice (some ⟨w.heap.size, 0, none⟩) n n) ∧ Below w.heap.size w w' := by
  obtain ⟨i0, hi, hz0, hz1, hz2⟩ := info_parts info30
  go_enter Try.func5, Try.ntmps5
  go_wp2_with (at_make; go_must (refine wpList_make_full _ rfl _ _ 26 rfl w.heap.size 30 i0 _ 2 Try.underlying26 hi hz0 hz1 .i64 .i64 _ _ n rfl rfl (by omega) (by omega) (by rw [hz2]; omega) (by unfold maxLen; omega) (Nat.le_refl _) ?_); intro w1 hown1 hgrow1)
  have hb1 := (Below.refl w.heap.size w).grown hgrow1 (Nat.le_refl _) (fun j hj => by cases hj)
  clear hgrow1
  go_loopw [6] (fun s wr => ∃ k : Nat, k ≤ n ∧ s = .int .i64 k ∧ (∃ xs, wr.ownsRow w.heap.size 30 2 (.slice (some ⟨w.heap.size, 0, none⟩) n n) n xs) ∧ Below w.heap.size w wr) (fun s _ => n - (intOf s).toNat)
  case atStart => exact ⟨0, Nat.zero_le _, rfl, ⟨_, hown1⟩, hb1⟩
  case round =>
    clear hown1 hb1
    obtain ⟨k, hk, rfl, ⟨xs, hrow⟩, hnx⟩ := hrel
    by_cases hlt : k < n
    · have pa := (hnx.cell (p := ⟨gA, oA + k, none⟩) hA).trans (ca k hlt)
      have pb := (hnx.cell (p := ⟨gB, oB + k, none⟩) hB).trans (cb k hlt)
      have hxl := hrow.1
      have f0 := hrow.frozenAt (k * 2)
      have f1 := hrow.frozenAt (k * 2 + 1)
      obtain ⟨u0, e0⟩ : ∃ u, wr.cell? ⟨w.heap.size, k * 2, none⟩ = some u := by
        rw [hrow.cellAt (k * 2) (by omega), List.getElem?_eq_getElem (by omega)]
        exact ⟨_, rfl⟩
      obtain ⟨u1, e1⟩ : ∃ u, wr.cell? ⟨w.heap.size, k * 2 + 1, none⟩ = some u := by
        rw [hrow.cellAt (k * 2 + 1) (by omega), List.getElem?_eq_getElem (by omega)]
        exact ⟨_, rfl⟩
      have nA : ¬ gA = w.heap.size := by omega
      have nB : ¬ gB = w.heap.size := by omega
      have nA' : ¬ w.heap.size = gA := by omega
      have nB' : ¬ w.heap.size = gB := by omega
      have i1 : (k : Int) < (n : Int) := by omega
      have i2 : (0 : Int) ≤ (k : Int) := by omega
      generalize za k = x at *
      generalize zb k = y at *
      clear ca cb
      go_wp2
      go_region_held3 (fun w3 => w3.cell? ⟨gA, oA + k, none⟩ = some (.int .i64 x) ∧ w3.cell? ⟨gB, oB + k, none⟩ = some (.int .i64 y)) (go_keep) (fail)
      go_wp2
      go_roundw
      case rel => exact ⟨k + 1, by omega, by go_num, ⟨_, ((hrow.stored (k * 2) _).1.stored (k * 2 + 1) _).1.drew⟩, ((hnx.setCell (Nat.le_refl _) _).setCell (Nat.le_refl _) _).drew⟩
      case measure => simp [intOf]; omega
    · clear ca cb
      go_wp2
      go_ret
      exact ⟨rfl, hnx⟩

set_option maxHeartbeats 1000000 in
theorem newHeap_none (a b : Option Addr) (cA cB : Nat) (w : World) :
    Calls Try.prog 5 #[.slice a 0 cA, .slice b 0 cB] w fun e w' => e = .returned (.slice (some ⟨w.heap.size, 0, none⟩) 0 0) ∧ Below w.heap.size w w' := by
  obtain ⟨i0, hi, hz0, hz1, hz2⟩ := info_parts info30
  go_enter Try.func5, Try.ntmps5
  go_wp2_with (at_make; go_must (refine wpList_make_full _ rfl _ _ 26 rfl w.heap.size 30 i0 _ 2 Try.underlying26 hi hz0 hz1 .i64 .i64 _ _ 0 rfl rfl (by omega) (by omega) (by rw [hz2]; omega) (by unfold maxLen; omega) (Nat.le_refl _) ?_); intro w1 hown1 hgrow1)
  have hb1 := (Below.refl w.heap.size w).grown hgrow1 (Nat.le_refl _) (fun j hj => by cases hj)
  clear hgrow1 hown1
  refine wp_loop_rounds 1 ?_
  rw [rounds_succ]
  go_wp2
  go_ret
  exact ⟨rfl, hb1⟩

/-- n integers lie at the slice v. -/
def IntsIn (w : World) (v : Value) (n : Nat) : Prop :=
  ∃ a cap, v = .slice a n cap ∧ (n = 0 ∨ ∃ g off, ∃ z : Nat → Int, a = some ⟨g, off, none⟩ ∧ g < w.heap.size ∧ ∀ i, i < n → w.cell? ⟨g, off + i, none⟩ = some (.int .i64 (z i)))

theorem newHeap_any (v0 v1 : Value) (n : Nat) (w : World) (hn : n ≤ 65536) (h0 : IntsIn w v0 n) (h1 : IntsIn w v1 n) :
    Calls Try.prog 5 #[v0, v1] w fun e w' => e = .returned (.slice (some ⟨w.heap.size, 0, none⟩) n n) ∧ Below w.heap.size w w' := by
  obtain ⟨a, cA, rfl, h0⟩ := h0
  obtain ⟨b, cB, rfl, h1⟩ := h1
  rcases h0 with rfl | ⟨gA, oA, za, rfl, hA, ca⟩
  · exact newHeap_none a b cA cB w
  · rcases h1 with rfl | ⟨gB, oB, zb, rfl, hB, cb⟩
    · exact newHeap_none _ b cA cB w
    · exact newHeap_some gA oA cA gB oB cB n za zb w hn hA hB ca cb

end Go.Proofs.Qxb6612290a
