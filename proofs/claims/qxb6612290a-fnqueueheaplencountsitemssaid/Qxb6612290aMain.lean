/-
  THE LAW's WALK. Seat b6612290a.
-/
import Derived.Test.Qxb6612290aHeap
import Derived.Laws.CopyOwn
namespace Go.Proofs.Qxb6612290a
open Go.RowKit

/-- What the walk is told of a slice of integers that came in: it is nil; or it leads to a row of 'cap' cells, the numbers 'zs', the first 'len' its elements. -/
def IsRow (k : IntKind) (w : World) (a : Option Addr) (len cap : Nat) (zs : List Int) : Prop :=
  (a = none ∧ len = 0 ∧ cap = 0 ∧ zs = []) ∨
  ∃ x, a = some x ∧ len ≤ cap ∧ cap ≤ maxLen ∧ zs.length = cap ∧ (∀ i, i < zs.length → w.cell? (x.add i) = some (.int k (zs.getD i 0))) ∧ ∀ n ∈ zs, (Lit.int k n).wf = true

theorem IsRow.len_le {k : IntKind} {w : World} {a : Option Addr} {len cap : Nat} {zs : List Int} (h : IsRow k w a len cap zs) : len ≤ maxLen := by
  rcases h with ⟨_, rfl, _⟩ | ⟨x, _, h1, h2, _⟩
  · exact Nat.zero_le _
  · exact Nat.le_trans h1 h2

theorem add_block (x : Addr) (i : Nat) : (x.add i).block = x.block := by unfold Addr.add; split <;> rfl

/-- A row's first n numbers, in a later world, as the copy's source. -/
theorem src_cells {w W : World} {x : Addr} {n cap : Nat} {zs : List Int} (hb : Below w.heap.size w W) (hn : n ≤ cap) (hz : zs.length = cap) (hc : ∀ i, i < zs.length → w.cell? (x.add i) = some (.int .i64 (zs.getD i 0))) :
    ∀ j v, ((zs.take n).map (Value.int .i64))[j]? = some v → W.cell? (x.add j) = some v := by
  intro j v hv
  rw [List.getElem?_map] at hv
  obtain ⟨s, hs, rfl⟩ := Option.map_eq_some_iff.1 hv
  obtain ⟨hj, rfl⟩ := List.getElem?_eq_some_iff.1 hs
  have hj' : j < zs.length := by simp at hj; omega
  have hcj := hc j hj'
  have hlt : (x.add j).block < w.heap.size := World.block_lt_of_cell? w (x.add j) hcj
  rw [hb.cell (p := x.add j) hlt, hcj]
  simp [List.getD, List.getElem?_eq_getElem hj']

/-- The block of a row that 'make' has just laid. -/
theorem row_block {w : World} {base g n : Nat} {e : TypeId} {xs : List Value} (h : w.ownsRow base e 1 (.slice (some ⟨g, 0, none⟩) n n) n xs) : ∃ cur : List Value, w.heap[g]? = some (.cells cur.toArray e (0, 0)) ∧ cur.length = n := by
  rcases h.2 with ⟨e, _⟩ | ⟨g', cap', cur, e, _, hg, _, _, hs, _⟩
  · cases e
  · simp only [Value.slice.injEq, Option.some.injEq, Addr.mk.injEq] at e
    obtain ⟨⟨rfl, _⟩, _, rfl⟩ := e
    exact ⟨cur.toList, by simpa using hg, by rw [Array.length_toList, hs, Nat.mul_one]⟩

/-- Behind the copy: n integers lie there. -/
theorem ints_copied {w : World} {g n cap : Nat} {cur : List Value} {t : TypeId} {zs : List Int} (hc : cur.length = n) (hz : n ≤ zs.length) (h : w.heap[g]? = some (.cells (splice cur 0 ((zs.take n).map (Value.int .i64))).toArray t (0, 0))) : IntsIn w (.slice (some ⟨g, 0, none⟩) n cap) n := by
  have e : splice cur 0 ((zs.take n).map (Value.int .i64)) = (zs.take n).map (Value.int .i64) := by
    have : cur.drop (0 + ((zs.take n).map (Value.int .i64)).length) = [] := List.drop_eq_nil_of_le (by simp; omega)
    unfold splice
    rw [this]
    simp
  rw [e] at h
  refine ⟨_, cap, rfl, Or.inr ⟨g, 0, fun i => zs.getD i 0, rfl, (Array.getElem?_eq_some_iff.1 h).1, fun i hi => ?_⟩⟩
  rw [Nat.zero_add, cell_of_row w g i _ t (0, 0) h]
  have hi' : i < zs.length := by omega
  simp [hi, List.getD, List.getElem?_eq_getElem hi']

theorem IntsIn.below {w w' : World} {v : Value} {n : Nat} (h : IntsIn w v n) (hb : Below w.heap.size w w') : IntsIn w' v n := by
  obtain ⟨a, cap, hv, h⟩ := h
  refine ⟨a, cap, hv, ?_⟩
  rcases h with h | ⟨g, off, z, ha, hg, hc⟩
  · exact Or.inl h
  · exact Or.inr ⟨g, off, z, ha, Nat.lt_of_lt_of_le hg hb.size, fun i hi => (hb.cell (p := ⟨g, off + i, none⟩) hg).trans (hc i hi)⟩

theorem info2 : (Try.prog.info? 2).map (fun i => (i.zero, i.size, i.bytes)) = some (some (.int .i64 0), 1, 8) := by kernel_rfl
theorem info3 : (Try.prog.info? 3).map (fun i => (i.zero, i.size, i.bytes)) = some (some (.int .i64 0), 1, 8) := by kernel_rfl

theorem ints_one (l : List Int) : ∀ v ∈ l.map (Value.int .i64), v.oneCell' = true := ints_oneCell .i64 l

set_option maxHeartbeats 4000000 in
theorem walk (a0 : Option Addr) (len0 cap0 : Nat) (z0 : List Int) (a1 : Option Addr) (len1 cap1 : Nat) (z1 : List Int) (w : World) (w0 : IsRow .i64 w a0 len0 cap0 z0) (w1 : IsRow .i64 w a1 len1 cap1 z1) :
    Calls Try.prog 3 #[.slice a0 len0 cap0, .slice a1 len1 cap1] w fun e w' => e = .returned (.bool true) ∧ Below w.heap.size w w' := by
  have b0 := w0.len_le
  have b1 := w1.len_le
  have hno := fun h => bytes_no a0 a1 len0 len1 cap0 cap1 b0 b1 h w
  unfold maxLen at b0 b1
  by_cases h1 : len0 + len1 ≤ 1048576
  · have hy := bytes_yes a0 a1 len0 len1 cap0 cap1 h1 w
    clear hno
    by_cases h2 : 65536 < len0
    · clear w0 w1
      go_enter Try.func3, Try.ntmps3
      go_wp2_with (go_at_call 4; refine hy.mono ?_; rintro e w' ⟨rfl, rfl⟩)
      go_ret
      exact ⟨rfl, Below.refl _ _⟩
    by_cases h3 : 65536 < len1
    · clear w0 w1
      go_enter Try.func3, Try.ntmps3
      go_wp2_with (go_at_call 4; refine hy.mono ?_; rintro e w' ⟨rfl, rfl⟩)
      go_ret
      exact ⟨rfl, Below.refl _ _⟩
    by_cases h4 : len0 = len1
    · subst h4
      obtain ⟨i0, hi0, hz00, hz01, hz02⟩ := info_parts info2
      obtain ⟨j0, hj0, hj00, hj01, hj02⟩ := info_parts info3
      have hs2 : (Try.prog.info? 2).map (·.size) = some 1 := by rw [hi0]; simp [hz01]
      have hs3 : (Try.prog.info? 3).map (·.size) = some 1 := by rw [hj0]; simp [hj01]
      rcases w0 with ⟨rfl, rfl, rfl, _⟩ | ⟨x0, rfl, hl0, hm0, hz0, hc0, _⟩
      · rcases w1 with ⟨rfl, _, rfl, _⟩ | ⟨x1, rfl, hl1, hm1, hz1, hc1, _⟩
        · clear h1 h2 h3 b0 b1
          have hneA := fun w n c => run_neq_slice_nil_any (P := Try.prog) w 22 2 none n c 0 0 Try.underlying22
          have hneB := fun w n c => run_neq_slice_nil_any (P := Try.prog) w 23 3 none n c 0 0 Try.underlying23
          go_enter Try.func3, Try.ntmps3
          go_wp2_with (first
            | (go_at_call 4; refine hy.mono ?_; rintro e w' ⟨rfl, hw'⟩; obtain rfl := hw'.symm))
          have hI0 : IntsIn w (.slice none 0 0) 0 := ⟨none, 0, rfl, Or.inl rfl⟩
          have hI1 : IntsIn w (.slice none 0 0) 0 := ⟨none, 0, rfl, Or.inl rfl⟩
          have hbl : Below w.heap.size w w := Below.refl w.heap.size w
          refine (newHeap_any _ _ _ _ (by omega) hI0 hI1).mono ?_
          rintro e we ⟨rfl, hbe⟩
          have hfin := hbl.trans (hbe.mono hbl.size)
          go_wp2_with (go_at_call 6; refine (len_any _ _ _ _).mono ?_; rintro e w' ⟨rfl, hw'⟩; obtain rfl := hw'.symm)
          go_ret
          exact ⟨by simp, hfin⟩
        · clear h1 h2 h3 b0 b1
          have hneA := fun w n c => run_neq_slice_nil_any (P := Try.prog) w 22 2 none n c 0 0 Try.underlying22
          have hneB := fun w n c => run_neq_slice_nil_any (P := Try.prog) w 23 3 (some x1) n c 0 0 Try.underlying23
          obtain ⟨X1, hX1⟩ : ∃ X1, X1 = (z1.take 0).map (Value.int .i64) := ⟨_, rfl⟩
          have lX1 : X1.length = 0 := by rw [hX1, List.length_map, List.length_take]; omega
          have oX1 : ∀ v ∈ X1, v.oneCell' = true := by rw [hX1]; exact ints_one _
          have sX1 : ∀ W, Below w.heap.size w W → ∀ j v, X1[j]? = some v → W.cell? (x1.add j) = some v := fun W hb => by rw [hX1]; exact src_cells hb hl1 hz1 hc1
          have HX1 : Hid (X1 = (z1.take 0).map (Value.int .i64)) := hX1
          have LX1 : Hid (X1.length = 0) := lX1
          clear hX1 lX1 hc1
          go_enter Try.func3, Try.ntmps3
          go_wp2_with (first
            | (go_at_call 4; refine hy.mono ?_; rintro e w' ⟨rfl, hw'⟩; obtain rfl := hw'.symm)
            | (at_make; refine wpList_make_full _ rfl (.tmp 38) (.tmp 38) 23 rfl w.heap.size 3 j0 _ 1 Try.underlying23 hj0 hj00 hj01 .i64 .i64 _ _ 0 rfl rfl (by omega) (by omega) (by rw [hj02]; omega) (by unfold maxLen; omega) (Nat.le_refl _) ?_; intro wc hownc hgrowc; have hbc := (Below.refl w.heap.size w).grown hgrowc (Nat.le_refl _) (fun j hj => by cases hj); obtain ⟨cur1, hcu1, hcl1⟩ := row_block hownc; have HCL1 : Hid (cur1.length = 0) := hcl1; clear hcl1 hownc hgrowc)
            | ((with_reducible refine (id ?_ : wpList _ _ _ ({ op := Op.call { callee := Callee.builtin Builtin.copy, .. }, .. } :: _) _ _)); refine wpList_copy_splice rfl (.tmp 40) (.tmp 41) 23 23 rfl 3 Try.underlying23 hs3 (some ⟨w.heap.size, 0, none⟩) (some x1) 0 0 0 cap1 rfl rfl w.heap.size 0 cur1 3 hcu1 X1 (by rw [LX1.out]; exact (Nat.min_self _).symm) (fun _ => ⟨rfl, x1, rfl, sX1 _ ((Below.refl w.heap.size w).trans (hbc.mono (Nat.le_refl _)))⟩) (by rw [LX1.out, HCL1.out]; omega) oX1 w.heap.size w hbc (Nat.le_refl _) ?_; intro wd HGd hbd; clear hcu1))
          have hI0' : IntsIn wd (.slice none 0 0) 0 := ⟨none, 0, rfl, Or.inl rfl⟩
          have hI1 : IntsIn wd (.slice (some ⟨w.heap.size, 0, none⟩) 0 0) 0 := ints_copied (zs := z1) HCL1.out (by omega) (by rw [← HX1.out]; exact HGd.out)
          have hbl : Below w.heap.size w wd := hbd
          refine (newHeap_any _ _ _ _ (by omega) hI0' hI1).mono ?_
          rintro e we ⟨rfl, hbe⟩
          have hfin := hbl.trans (hbe.mono hbl.size)
          go_wp2_with (go_at_call 6; refine (len_any _ _ _ _).mono ?_; rintro e w' ⟨rfl, hw'⟩; obtain rfl := hw'.symm)
          go_ret
          exact ⟨by simp, hfin⟩
      · rcases w1 with ⟨rfl, rfl, rfl, _⟩ | ⟨x1, rfl, hl1, hm1, hz1, hc1, _⟩
        · clear h1 h2 h3 b0 b1
          have hneA := fun w n c => run_neq_slice_nil_any (P := Try.prog) w 22 2 (some x0) n c 0 0 Try.underlying22
          have hneB := fun w n c => run_neq_slice_nil_any (P := Try.prog) w 23 3 none n c 0 0 Try.underlying23
          obtain ⟨X0, hX0⟩ : ∃ X0, X0 = (z0.take 0).map (Value.int .i64) := ⟨_, rfl⟩
          have lX0 : X0.length = 0 := by rw [hX0, List.length_map, List.length_take]; omega
          have oX0 : ∀ v ∈ X0, v.oneCell' = true := by rw [hX0]; exact ints_one _
          have sX0 : ∀ W, Below w.heap.size w W → ∀ j v, X0[j]? = some v → W.cell? (x0.add j) = some v := fun W hb => by rw [hX0]; exact src_cells hb hl0 hz0 hc0
          have HX0 : Hid (X0 = (z0.take 0).map (Value.int .i64)) := hX0
          have LX0 : Hid (X0.length = 0) := lX0
          clear hX0 lX0 hc0
          go_enter Try.func3, Try.ntmps3
          go_wp2_with (first
            | (go_at_call 4; refine hy.mono ?_; rintro e w' ⟨rfl, hw'⟩; obtain rfl := hw'.symm)
            | (at_make; refine wpList_make_full _ rfl (.tmp 29) (.tmp 29) 22 rfl w.heap.size 2 i0 _ 1 Try.underlying22 hi0 hz00 hz01 .i64 .i64 _ _ 0 rfl rfl (by omega) (by omega) (by rw [hz02]; omega) (by unfold maxLen; omega) (Nat.le_refl _) ?_; intro wa howna hgrowa; have hba := (Below.refl w.heap.size w).grown hgrowa (Nat.le_refl _) (fun j hj => by cases hj); obtain ⟨cur0, hcu0, hcl0⟩ := row_block howna; have HCL0 : Hid (cur0.length = 0) := hcl0; clear hcl0 howna hgrowa)
            | ((with_reducible refine (id ?_ : wpList _ _ _ ({ op := Op.call { callee := Callee.builtin Builtin.copy, .. }, .. } :: _) _ _)); refine wpList_copy_splice rfl (.tmp 31) (.tmp 32) 22 22 rfl 2 Try.underlying22 hs2 (some ⟨w.heap.size, 0, none⟩) (some x0) 0 0 0 cap0 rfl rfl w.heap.size 0 cur0 2 hcu0 X0 (by rw [LX0.out]; exact (Nat.min_self _).symm) (fun _ => ⟨rfl, x0, rfl, sX0 _ hba⟩) (by rw [LX0.out, HCL0.out]; omega) oX0 w.heap.size w hba (Nat.le_refl _) ?_; intro wb HGb hbb; have hsb := hbb.size; clear hcu0))
          have hI0 : IntsIn wb (.slice (some ⟨w.heap.size, 0, none⟩) 0 0) 0 := ints_copied (zs := z0) HCL0.out (by omega) (by rw [← HX0.out]; exact HGb.out)
          have hI1 : IntsIn wb (.slice none 0 0) 0 := ⟨none, 0, rfl, Or.inl rfl⟩
          have hbl : Below w.heap.size w wb := hbb
          refine (newHeap_any _ _ _ _ (by omega) hI0 hI1).mono ?_
          rintro e we ⟨rfl, hbe⟩
          have hfin := hbl.trans (hbe.mono hbl.size)
          go_wp2_with (go_at_call 6; refine (len_any _ _ _ _).mono ?_; rintro e w' ⟨rfl, hw'⟩; obtain rfl := hw'.symm)
          go_ret
          exact ⟨by simp, hfin⟩
        · clear b0 b1 h3
          have hneA := fun w n c => run_neq_slice_nil_any (P := Try.prog) w 22 2 (some x0) n c 0 0 Try.underlying22
          have hneB := fun w n c => run_neq_slice_nil_any (P := Try.prog) w 23 3 (some x1) n c 0 0 Try.underlying23
          obtain ⟨X0, hX0⟩ : ∃ X0, X0 = (z0.take len0).map (Value.int .i64) := ⟨_, rfl⟩
          have lX0 : X0.length = len0 := by rw [hX0, List.length_map, List.length_take]; omega
          have oX0 : ∀ v ∈ X0, v.oneCell' = true := by rw [hX0]; exact ints_one _
          have sX0 : ∀ W, Below w.heap.size w W → ∀ j v, X0[j]? = some v → W.cell? (x0.add j) = some v := fun W hb => by rw [hX0]; exact src_cells hb hl0 hz0 hc0
          have HX0 : Hid (X0 = (z0.take len0).map (Value.int .i64)) := hX0
          have LX0 : Hid (X0.length = len0) := lX0
          clear hX0 lX0 hc0
          obtain ⟨X1, hX1⟩ : ∃ X1, X1 = (z1.take len0).map (Value.int .i64) := ⟨_, rfl⟩
          have lX1 : X1.length = len0 := by rw [hX1, List.length_map, List.length_take]; omega
          have oX1 : ∀ v ∈ X1, v.oneCell' = true := by rw [hX1]; exact ints_one _
          have sX1 : ∀ W, Below w.heap.size w W → ∀ j v, X1[j]? = some v → W.cell? (x1.add j) = some v := fun W hb => by rw [hX1]; exact src_cells hb hl1 hz1 hc1
          have HX1 : Hid (X1 = (z1.take len0).map (Value.int .i64)) := hX1
          have LX1 : Hid (X1.length = len0) := lX1
          clear hX1 lX1 hc1
          go_enter Try.func3, Try.ntmps3
          go_wp2_with (first
            | (go_at_call 4; refine hy.mono ?_; rintro e w' ⟨rfl, hw'⟩; obtain rfl := hw'.symm)
            | (at_make; refine wpList_make_full _ rfl (.tmp 29) (.tmp 29) 22 rfl w.heap.size 2 i0 _ 1 Try.underlying22 hi0 hz00 hz01 .i64 .i64 _ _ len0 rfl rfl (by omega) (by omega) (by rw [hz02]; omega) (by unfold maxLen; omega) (Nat.le_refl _) ?_; intro wa howna hgrowa; have hba := (Below.refl w.heap.size w).grown hgrowa (Nat.le_refl _) (fun j hj => by cases hj); obtain ⟨cur0, hcu0, hcl0⟩ := row_block howna; have HCL0 : Hid (cur0.length = len0) := hcl0; clear hcl0 howna hgrowa)
            | ((with_reducible refine (id ?_ : wpList _ _ _ ({ op := Op.call { callee := Callee.builtin Builtin.copy, .. }, .. } :: _) _ _)); refine wpList_copy_splice rfl (.tmp 31) (.tmp 32) 22 22 rfl 2 Try.underlying22 hs2 (some ⟨w.heap.size, 0, none⟩) (some x0) len0 len0 len0 cap0 rfl rfl w.heap.size 0 cur0 2 hcu0 X0 (by rw [LX0.out]; exact (Nat.min_self _).symm) (fun _ => ⟨rfl, x0, rfl, sX0 _ hba⟩) (by rw [LX0.out, HCL0.out]; omega) oX0 w.heap.size w hba (Nat.le_refl _) ?_; intro wb HGb hbb; have hsb := hbb.size; clear hcu0)
            | (at_make; refine wpList_make_full _ rfl (.tmp 38) (.tmp 38) 23 rfl wb.heap.size 3 j0 _ 1 Try.underlying23 hj0 hj00 hj01 .i64 .i64 _ _ len0 rfl rfl (by omega) (by omega) (by rw [hj02]; omega) (by unfold maxLen; omega) (Nat.le_refl _) ?_; intro wc hownc hgrowc; have hbc := (Below.refl wb.heap.size wb).grown hgrowc (Nat.le_refl _) (fun j hj => by cases hj); obtain ⟨cur1, hcu1, hcl1⟩ := row_block hownc; have HCL1 : Hid (cur1.length = len0) := hcl1; clear hcl1 hownc hgrowc)
            | ((with_reducible refine (id ?_ : wpList _ _ _ ({ op := Op.call { callee := Callee.builtin Builtin.copy, .. }, .. } :: _) _ _)); refine wpList_copy_splice rfl (.tmp 40) (.tmp 41) 23 23 rfl 3 Try.underlying23 hs3 (some ⟨wb.heap.size, 0, none⟩) (some x1) len0 len0 len0 cap1 rfl rfl wb.heap.size 0 cur1 3 hcu1 X1 (by rw [LX1.out]; exact (Nat.min_self _).symm) (fun _ => ⟨rfl, x1, rfl, sX1 _ (hbb.trans (hbc.mono hbb.size))⟩) (by rw [LX1.out, HCL1.out]; omega) oX1 wb.heap.size wb hbc (Nat.le_refl _) ?_; intro wd HGd hbd; clear hcu1))
          have hI0 : IntsIn wb (.slice (some ⟨w.heap.size, 0, none⟩) len0 len0) len0 := ints_copied (zs := z0) HCL0.out (by omega) (by rw [← HX0.out]; exact HGb.out)
          have hI0' := hI0.below hbd
          have hI1 : IntsIn wd (.slice (some ⟨wb.heap.size, 0, none⟩) len0 len0) len0 := ints_copied (zs := z1) HCL1.out (by omega) (by rw [← HX1.out]; exact HGd.out)
          have hbl : Below w.heap.size w wd := hbb.trans (hbd.mono hbb.size)
          refine (newHeap_any _ _ _ _ (by omega) hI0' hI1).mono ?_
          rintro e we ⟨rfl, hbe⟩
          have hfin := hbl.trans (hbe.mono hbl.size)
          go_wp2_with (go_at_call 6; refine (len_any _ _ _ _).mono ?_; rintro e w' ⟨rfl, hw'⟩; obtain rfl := hw'.symm)
          go_ret
          exact ⟨by simp, hfin⟩
    · have h4' : ((len0 : Int) != (len1 : Int)) = true := by simp; omega
      clear w0 w1 h4
      go_enter Try.func3, Try.ntmps3
      go_wp2_with (go_at_call 4; refine hy.mono ?_; rintro e w' ⟨rfl, rfl⟩)
      go_ret
      exact ⟨rfl, Below.refl _ _⟩
  · have hn := hno (by omega)
    clear w0 w1 hno
    go_enter Try.func3, Try.ntmps3
    go_wp2_with (go_at_call 4; refine hn.mono ?_; rintro e w' ⟨rfl, rfl⟩)
    go_ret
    exact ⟨rfl, Below.refl _ _⟩

end Go.Proofs.Qxb6612290a
