/-
  postsAtOf. Seat b6612211a.
-/
import Derived.Test.Qxb6612211aSmall
import Derived.Deep.RegionHeld3
import Derived.Deep.RegionLaw
import Derived.Deep.AppendLies
namespace Go.Proofs.Qxb6612211a
open Go.RowKit Go.Maps Go.Sort Go.Shelf

theorem info59 : (Try.prog.info? 59).map (fun i => (i.zero, i.size, i.bytes)) = some (some (.agg #[.string ⟨#[]⟩, .string ⟨#[]⟩, .string ⟨#[]⟩, .int .i64 0, .string ⟨#[]⟩, .string ⟨#[]⟩, .int .i32 0, .int .i32 0]), 8, 96) := by kernel_rfl

theorem drew_block (W : World) (o : Obj) (b : Nat) (h : b < W.heap.size) : (W.alloc o).drew.heap[b]? = W.heap[b]? := heap_alloc_old W o b h
theorem drew_block2 (W : World) (o o' : Obj) (b : Nat) (h : b < W.heap.size) : ((W.alloc o).alloc o').drew.heap[b]? = W.heap[b]? := (heap_alloc_old (W.alloc o) o' b (by simp; omega)).trans (heap_alloc_old W o b h)

theorem news2 (wr : World) (A : Obj) (cs : Array Value) (t : TypeId) : ∀ j u, cs.toList[j]? = some u → ((wr.alloc A).alloc (.cells cs t)).drew.cell? ((⟨wr.heap.size + 1, 0, none⟩ : Addr).add j) = some u :=
  World.news_of_block (w := ((wr.alloc A).alloc (.cells cs t)).drew) (B := wr.heap.size + 1) (cs := cs) (t := t) (fr := (0, 0)) (by
    have h := heap_alloc_new (wr.alloc A) (.cells cs t)
    have e : (wr.alloc A).heap.size = wr.heap.size + 1 := by simp
    rw [e] at h
    exact h)
theorem own2 {wr : World} {base n : Nat} {e : TypeId} {size : Nat} {v : Value} {xs : List Value} (h : wr.ownsRow base e size v n xs) (A B : Obj) : ((wr.alloc A).alloc B).drew.ownsRow base e size v n xs := (h.alloc A).alloc B
theorem grown2 {wr w1 : World} {A B : Obj} {row : Option Nat} (h : ((wr.alloc A).alloc B).drew.grownBy w1 row) : wr.grownBy w1 row :=
  ((World.grownBy_alloc wr A row).trans (World.grownBy_alloc (wr.alloc A) B row)).trans ⟨h.os, h.tape, h.output, h.size, h.block⟩
theorem factOne (p : Post) : ∀ u ∈ factCells p, u.oneCell' = true := by
  intro u hu
  simp [factCells] at hu
  rcases hu with rfl | rfl | rfl | rfl | rfl | rfl | rfl <;> rfl
theorem loc_of {v : Value} {g n c H h : Nat} (hat : v.ownBlock = some g ∨ g = H) (hh : h ≤ H) : (Value.slice (some ⟨g, 0, none⟩) n c).ownBlock = v.ownBlock ∨ ∃ g', (Value.slice (some ⟨g, 0, none⟩) n c).ownBlock = some g' ∧ h ≤ g' := by
  rcases hat with e | e
  · exact Or.inl e.symm
  · exact Or.inr ⟨g, rfl, by omega⟩

theorem keep_block {wr w1 : World} {cs : Array Value} {t : TypeId} {B : Obj} {row : Option Nat} (hg : ((wr.alloc (.cells cs t)).alloc B).drew.grownBy w1 row) (hr : some wr.heap.size ≠ row) : w1.heap[wr.heap.size]? = some (.cells cs t (0, 0)) :=
  (hg.block wr.heap.size (by show wr.heap.size < ((wr.alloc (.cells cs t)).alloc B).heap.size; simp; omega) hr).trans ((heap_alloc_old (wr.alloc (.cells cs t)) B _ (by simp)).trans (heap_alloc_new wr _))
theorem cells3 {W : World} {n : Nat} {x y z : Value} {t : TypeId} (h : W.heap[n]? = some (.cells #[x, y, z] t (0, 0))) : W.cell? ⟨n, 0, none⟩ = some x ∧ W.cell? ⟨n, 1, none⟩ = some y ∧ W.cell? ⟨n, 2, none⟩ = some z :=
  ⟨by rw [cell_of_row W n 0 _ t (0, 0) h]; rfl, by rw [cell_of_row W n 1 _ t (0, 0) h]; rfl, by rw [cell_of_row W n 2 _ t (0, 0) h]; rfl⟩
theorem own_ne {wr : World} {base n : Nat} {e : TypeId} {size : Nat} {v : Value} {xs : List Value} (h : wr.ownsRow base e size v n xs) : some wr.heap.size ≠ v.ownBlock := fun e => by
  have := (h.lt _ e.symm).2
  omega

theorem fin_of {w wr w1 w2 : World} {B base n k : Nat} {e : TypeId} {size : Nat} {v : Value} {xs : List Value} {L : List Post} (hlt : k < L.length) (hB : B ≤ wr.heap.size) (hbase : B ≤ base) (hnx : Below B w wr) (hrow : wr.ownsRow base e size v n xs) (hg1 : wr.grownBy w1 v.ownBlock)
    (hG2 : Groups w2 base B (k + 1) (L.take k ++ [L[k]])) (hg2 : w1.grownBy w2 (some B)) : Groups w2 base B (k + 1) (L.take (k + 1)) ∧ Below B w w2 := by
  refine ⟨by rw [List.take_succ_eq_append_getElem hlt]; exact hG2, ?_⟩
  exact (hnx.grown hg1 hB (fun j hj => Nat.le_trans hbase (hrow.lt j hj).1)).grown hg2 (Nat.le_trans hB hg1.size) (fun j hj => by cases hj; exact Nat.le_refl _)

set_option maxHeartbeats 400000 in
theorem postsAtOf_some (g off cap : Nat) (L : List Post) (w : World) (hl : L.length ≤ 8192) (hsz : ∀ p ∈ L, p.a.size ≤ maxLen)
    (hc : ∀ i (h : i < L.length), w.cell? ⟨g, off + i * 3, none⟩ = some (.string L[i].a) ∧ w.cell? ⟨g, off + i * 3 + 1, none⟩ = some (.string L[i].f) ∧ w.cell? ⟨g, off + i * 3 + 2, none⟩ = some (.string L[i].r))
    (hg : g < w.heap.size) :
    Calls Try.prog 7 #[.slice (some ⟨g, off, none⟩) L.length cap] w fun e w' => e = .returned (.map (some w.heap.size)) ∧ Groups w' (w.heap.size + 1) w.heap.size L.length L ∧ Below w.heap.size w w' := by
  have hmm := @run_makeMap Try.prog
  go_enter Try.func7, Try.ntmps7
  go_wp2
  go_loopw [9] (fun i wr => ∃ k : Nat, k ≤ L.length ∧ i = .int .i64 k ∧ Groups wr (w.heap.size + 1) w.heap.size k (L.take k) ∧ Below w.heap.size w wr) (fun i _ => L.length - (intOf i).toNat)
  case atStart => exact ⟨0, Nat.zero_le _, rfl, groups_made w, (Below.refl _ _).alloc (Nat.le_refl _) _⟩
  case round =>
    obtain ⟨k, hk, rfl, hG, hnx⟩ := hrel
    by_cases hlt : k < L.length
    · obtain ⟨c0, c1, c2⟩ := hc k hlt
      have hc0 := (hnx.cell (p := ⟨g, off + k * 3, none⟩) hg).trans c0
      have hc1 := (hnx.cell (p := ⟨g, off + k * 3 + 1, none⟩) hg).trans c1
      have hc2 := (hnx.cell (p := ⟨g, off + k * 3 + 2, none⟩) hg).trans c2
      clear c0 c1 c2 hc
      have hBs : w.heap.size < wr.heap.size := by have := hG.2.1; omega
      obtain ⟨v, hlk, hrow, hback⟩ := hG.look L[k].a (hsz _ (List.getElem_mem hlt)) (by unfold maxLen; omega)
      have l1 := fun o => hlk (wr.alloc o).drew (drew_block wr o _ hBs)
      have l2 := fun o o' => hlk ((wr.alloc o).alloc o').drew (drew_block2 wr o o' _ hBs)
      have hgl := grp_le L[k].a.data.toList (L.take k)
      have htl : (L.take k).length ≤ k := List.length_take_le _ _
      have hmaxB : (grp L[k].a.data.toList (L.take k)).length + 1 ≤ maxLen := by unfold maxLen; omega
      have hbytB : ((grp L[k].a.data.toList (L.take k)).length + 1) * 96 ≤ 140737488355328 := by omega
      obtain ⟨i0, hi, hz0, hz1, hz2⟩ := info_parts info59
      have HL : Hid (∀ W : World, W.heap[w.heap.size]? = wr.heap[w.heap.size]? → (Instr.lookup 30 (.map (some w.heap.size)) (.string L[k].a) false).run Try.prog W = .ok v W) := hlk
      clear hlk
      go_wp2
      go_region_held3 (fun w' => w'.cell? ⟨wr.heap.size, 0, none⟩ = some (.string L[k].a) ∧ w'.cell? ⟨wr.heap.size, 1, none⟩ = some (.string L[k].f) ∧ w'.cell? ⟨wr.heap.size, 2, none⟩ = some (.string L[k].r)) (go_keep)
        ((refine step_append_lies _ (by rfl) (.tmp 19) (.tmp 27) 38 (by rfl) (w.heap.size + 1) 59 i0 _ 8 96 Try.underlying38 hi hz0 hz1 hz2 rfl (by decide) v _ _ (by rfl) (own2 hrow _ _) ⟨wr.heap.size + 1, 0, none⟩ 1 1 (factCells L[k]) (by rfl) (by rfl) (news2 _ _ _ _) (factOne _) (by decide) hmaxB hbytB (by simp; omega) (wr.heap.size + 2) (by simp) ?_; intro g' cap' w1 hown1 hgrow1 hat1 hlt1; obtain ⟨w2, hmu, hG2, hgr2⟩ := hback L[k] w1 _ rfl (grown2 hgrow1) hown1 (loc_of hat1 (by omega)); obtain ⟨q0, q1, q2⟩ := cells3 (keep_block hgrow1 (own_ne hrow)); obtain ⟨q3, q4, q5⟩ := cells3 ((hgr2.block wr.heap.size (by have := (grown2 hgrow1).size; have := (lt_of_block (keep_block hgrow1 (own_ne hrow))); omega) (by simp; omega)).trans (keep_block hgrow1 (own_ne hrow))); have hfin := fin_of hlt (Nat.le_of_lt hBs) (Nat.le_succ _) hnx hrow (grown2 hgrow1) hG2 hgr2; clear hG2 hgr2 hown1 hgrow1 hat1 hlt1))
      all_goals
        go_wp2
        go_roundw
        case rel => exact ⟨k + 1, by omega, by go_num, hfin.1, hfin.2⟩
        case measure => simp [intOf]; omega
    · go_wp2
      go_ret
      have e : k = L.length := by omega
      subst e
      exact ⟨rfl, by simpa using hG, hnx⟩

theorem postsAtOf_none (a : Option Addr) (cap : Nat) (w : World) :
    Calls Try.prog 7 #[.slice a 0 cap] w fun e w' => e = .returned (.map (some w.heap.size)) ∧ Groups w' (w.heap.size + 1) w.heap.size 0 [] ∧ Below w.heap.size w w' := by
  have hmm := @run_makeMap Try.prog
  go_enter Try.func7, Try.ntmps7
  go_wp2
  refine wp_loop_rounds 1 ?_
  rw [rounds_succ]
  go_wp2
  go_ret
  exact ⟨rfl, groups_made w, (Below.refl _ _).alloc (Nat.le_refl _) _⟩

/-- THE POSTS L LIE AT THE SLICE v. -/
def PostsIn (w : World) (v : Value) (L : List Post) : Prop :=
  ∃ a cap, v = .slice a L.length cap ∧ (a = none → cap = 0) ∧ (L = [] ∨ ∃ g off, a = some ⟨g, off, none⟩ ∧ g < w.heap.size ∧
    ∀ i (h : i < L.length), w.cell? ⟨g, off + i * 3, none⟩ = some (.string L[i].a) ∧ w.cell? ⟨g, off + i * 3 + 1, none⟩ = some (.string L[i].f) ∧ w.cell? ⟨g, off + i * 3 + 2, none⟩ = some (.string L[i].r))

theorem PostsIn.below {w w' : World} {v : Value} {L : List Post} (h : PostsIn w v L) (hb : Below w.heap.size w w') : PostsIn w' v L := by
  obtain ⟨a, cap, hv, hn, h⟩ := h
  refine ⟨a, cap, hv, hn, ?_⟩
  rcases h with h | ⟨g, off, ha, hg, hc⟩
  · exact Or.inl h
  · refine Or.inr ⟨g, off, ha, Nat.lt_of_lt_of_le hg hb.size, fun i hi => ?_⟩
    obtain ⟨c0, c1, c2⟩ := hc i hi
    exact ⟨(hb.cell (p := ⟨g, _, none⟩) hg).trans c0, (hb.cell (p := ⟨g, _, none⟩) hg).trans c1, (hb.cell (p := ⟨g, _, none⟩) hg).trans c2⟩

theorem postsAtOf_any (v : Value) (L : List Post) (w : World) (hl : L.length ≤ 8192) (hsz : ∀ p ∈ L, p.a.size ≤ maxLen) (h : PostsIn w v L) :
    Calls Try.prog 7 #[v] w fun e w' => e = .returned (.map (some w.heap.size)) ∧ Groups w' (w.heap.size + 1) w.heap.size L.length L ∧ Below w.heap.size w w' := by
  obtain ⟨a, cap, rfl, _, h⟩ := h
  rcases h with rfl | ⟨g, off, rfl, hg, hc⟩
  · exact postsAtOf_none a cap w
  · exact postsAtOf_some g off cap L w hl hsz hc hg

end Go.Proofs.Qxb6612211a
