/-
  countDistinctAsked. Seat b6612213a.
-/
import Derived.Test.Qxb6612213aFirst
import Derived.Test.Qxb6612213aSortPlain
import Derived.Deep.RegionHeld3
import Derived.Deep.QuietTactic
import Derived.BigQuiet
namespace Go.Proofs.Qxb6612213a
open Go.RowKit Go.Maps

theorem info35 : (Try.prog.info? 35).map (fun i => (i.zero, i.size, i.bytes)) = some (some (.int .u32 0), 1, 4) := by kernel_rfl

/-- The numbers X lie in the call's own row. -/
structure CInv (w wr : World) (X : List Int) (N cap : Nat) : Prop where
  row : wr.ownsRow w.heap.size 35 1 (.slice (some ⟨w.heap.size, 0, none⟩) N cap) N (X.map (Value.int .u32))
  len : N = X.length
  below : Below w.heap.size w wr

theorem CInv.cell {w wr : World} {X : List Int} {N cap : Nat} (h : CInv w wr X N cap) (m : Nat) (hm : m < X.length) : wr.cell? ⟨w.heap.size, m, none⟩ = some (.int .u32 X[m]) := by
  rw [h.row.cellAt m (by rw [h.len]; omega), List.getElem?_map, List.getElem?_eq_getElem hm]
  rfl
theorem CInv.free {w wr : World} {X : List Int} {N cap : Nat} (h : CInv w wr X N cap) (m : Nat) : wr.frozen? ⟨w.heap.size, m, none⟩ = false := h.row.frozenAt m
theorem CInv.set {w wr : World} {X : List Int} {N cap : Nat} (h : CInv w wr X N cap) (m : Nat) (x : Int) : CInv w (wr.setCell ⟨w.heap.size, m, none⟩ (.int .u32 x)) (X.set m x) N cap := by
  refine ⟨?_, by simp [h.len], h.below.setCell (Nat.le_refl _) _⟩
  rw [List.map_set]
  exact (h.row.stored m _).1
theorem CInv.drew {w wr : World} {X : List Int} {N cap : Nat} (h : CInv w wr X N cap) : CInv w wr.drew X N cap := ⟨h.row.drew, h.len, h.below.drew⟩

theorem CInv.drewN {w wr : World} {X : List Int} {N cap : Nat} (h : CInv w wr X N cap) (n : Nat) : CInv w (wr.drewN n) X N cap := ⟨h.row, h.len, below_drewN h.below n⟩

theorem CInv.add {w wr w3 : World} {X : List Int} {N cap : Nat} {x : Int} {o : Obj} (h : CInv w wr X N cap) (hg : (wr.alloc o).grownBy w3 (some w.heap.size)) (hown : w3.ownsRow w.heap.size 35 1 (.slice (some ⟨w.heap.size, 0, none⟩) (N + 1) cap) (N + 1) (X.map (Value.int .u32) ++ [.int .u32 x])) : CInv w w3 (X ++ [x]) (N + 1) cap :=
  ⟨by rw [List.map_append]; exact hown, by simp [h.len], (h.below.alloc h.below.size o).grown hg (Nat.le_trans h.below.size (World.grownBy_alloc wr o none).size) (fun j hj => by cases hj; exact Nat.le_refl _)⟩

set_option maxHeartbeats 4000000 in
theorem count_some (g off cap : Nat) (L : List Ent) (w : World) (hl : L.length ≤ 65536) (hL : Named L) (hE : EntCells w g off L) :
    Calls Try.prog 11 #[.slice (some ⟨g, off, none⟩) L.length cap] w fun e w' => e = .returned (.int .i64 (firsts (askedE L)).length) ∧ Below w.heap.size w w' := by
  have HE : Hid (EntCells w g off L) := hE
  have HL : Hid (Named L) := hL
  have hg := hE.1
  obtain ⟨i0, hi, hz0, hz1, hz2⟩ := info_parts info35
  clear hE hL
  go_enter Try.func11, Try.ntmps11
  go_wp2_with (at_make; go_must (refine wpList_make_own _ rfl _ _ 57 rfl w.heap.size 35 i0 _ 1 Try.underlying57 hi hz0 hz1 .i64 .i64 _ L.length rfl rfl (by omega) (by rw [hz2]; omega) (by unfold maxLen; omega) (Nat.le_refl _) ?_); intro w1 hown1 hgrow1)
  have hinv0 : CInv w w1 [] 0 L.length := ⟨hown1, rfl, (Below.refl _ _).grown hgrow1 (Nat.le_refl _) (fun j hj => by cases hj)⟩
  clear hown1 hgrow1
  go_loopw [3, 4] (fun v i wr => ∃ (k : Nat) (X : List Int) (N : Nat), k ≤ L.length ∧ N ≤ k ∧ i = .int .i64 k ∧ v = .slice (some ⟨w.heap.size, 0, none⟩) N L.length ∧ CInv w wr X N L.length ∧ Hid (X = askedE (L.take k))) (fun _ i _ => L.length - (intOf i).toNat)
  case atStart => exact ⟨0, [], 0, Nat.zero_le _, Nat.le_refl _, rfl, rfl, hinv0, rfl⟩
  case round =>
    clear hinv0
    obtain ⟨k, X, N, hk, hNk, rfl, rfl, hinv, HX⟩ := hrel
    by_cases hlt : k < L.length
    · obtain ⟨d0, d1, ok⟩ := (HE.out.below hinv.below).2 k hlt
      have hgl : g < wr.heap.size := Nat.lt_of_lt_of_le hg hinv.below.size
      rcases hrp : L[k].rp with _ | ⟨rb, ro⟩
      · have HX' : Hid (X = askedE (L.take (k + 1))) := by show X = _; rw [askedE_snoc_none hlt hrp]; exact HX.out
        rw [hrp] at d1
        simp only [ptr] at d1
        clear hrp d0 ok
        go_wp2
        go_roundw
        case rel => exact ⟨k + 1, X, N, by omega, by omega, by go_num, rfl, hinv, HX'⟩
        case measure => simp [intOf]; omega
      · have hask : L[k].rp.isSome = true := by rw [hrp]; rfl
        have hsm := HL.out L[k] (List.getElem_mem hlt) hask
        obtain ⟨⟨gb, go⟩, hgp⟩ := Option.isSome_iff_exists.1 hsm
        obtain ⟨hgb, hgc, _⟩ := ok.1 gb go hgp
        have HX' : Hid (X ++ [L[k].g] = askedE (L.take (k + 1))) := by show _ = _; rw [askedE_snoc_some hlt hask, HX.out]
        rw [hrp] at d1
        rw [hgp] at d0
        simp only [ptr] at d0 d1
        have hws := hinv.below.size
        clear hrp hgp hsm ok hask
        go_wp2_with (at_builtin; go_must (refine wpList_append_fits _ rfl (.tmp 25) (.tmp 33) 57 rfl w.heap.size 35 i0 1 Try.underlying57 hi hz1 w.heap.size N L.length (X.map (Value.int .u32)) rfl (hinv.row.alloc _) ⟨wr.heap.size, 0, none⟩ 1 1 [.int .u32 L[k].g] rfl rfl (cell_one_new _ _ _) (ints_oneCell .u32 [L[k].g]) (by omega) ?_); intro w3 hown3 hgrow3)
        have hfin := hinv.add hgrow3 hown3
        go_wp2
        go_roundw
        case rel => exact ⟨k + 1, _, N + 1, by omega, by omega, by go_num, rfl, hfin, HX'⟩
        case measure => simp [intOf]; omega
    · obtain rfl : k = L.length := by omega
      have HX1 : Hid (X = askedE L) := by have := HX.out; rwa [List.take_length] at this
      clear HX
      have hN : N ≤ 65536 := by omega
      clear hNk hlt hk
      go_wp2
      go_loopw [5] (fun s5 wr => ∃ (i : Nat) (Y : List Int), 1 ≤ i ∧ i ≤ N + 1 ∧ s5 = .int .i64 i ∧ CInv w wr Y N L.length ∧ Hid (∀ x, x ∈ Y ↔ x ∈ X) ∧ Hid (Upto Y i)) (fun s5 _ => N + 1 - (intOf s5).toNat)
      case atStart => exact ⟨1, X, Nat.le_refl _, by omega, rfl, hinv, fun _ => Iff.rfl, upto_one X⟩
      case round =>
        clear hinv
        obtain ⟨i, Y, hi1, hiN, rfl, hinv, HM, HU⟩ := hrel
        by_cases hlt : i < N
        · have hiY : i < Y.length := by have := hinv.len; omega
          have ci := hinv.cell i hiY
          obtain ⟨x, hx⟩ : ∃ x, x = Y[i] := ⟨_, rfl⟩
          rw [← hx] at ci
          have HXi : Hid (x = Y[i]) := hx
          clear hx
          go_wp2
          go_loopw [7] (fun s7 wr => ∃ (j : Nat) (R : List Int), j ≤ i ∧ s7 = .int .i64 j ∧ CInv w wr R N L.length ∧ Hid (Moved Y R i j) ∧ Hid (∀ m (hm : m < Y.length), j ≤ m → m < i → x < Y[m])) (fun s7 _ => (intOf s7).toNat)
          case atStart => exact ⟨i, Y, Nat.le_refl _, rfl, hinv, moved_start Y i, fun m hm h1 h2 => by omega⟩
          case round =>
            have hYl : N = Y.length := hinv.len
            have HYl : Hid (N = Y.length) := hYl
            clear hinv ci hYl
            obtain ⟨j, R, hji, rfl, hinv, HV, HG⟩ := hrel
            have hRl : j < R.length := by have := hinv.len; omega
            have cj := hinv.cell j hRl
            have fj := hinv.free j
            have hfin := hinv.set j x
            have HF1 : Hid (∀ y, y ∈ R.set j x ↔ y ∈ X) := fun y => by rw [HXi.out, HV.out.mem hiY hji y]; exact HM.out y
            by_cases hj0 : j = 0
            · have HF2 : Hid (Upto (R.set j x) (i + 1)) := by
                have h1 := HG.out
                rw [HXi.out] at h1 ⊢
                exact HV.out.sorted hiY hji HU.out h1 (fun m hm hmj => by omega)
              subst hj0
              go_wp2
              go_roundw
              case rel => exact ⟨i + 1, _, by omega, by omega, by go_num, hfin, HF1, HF2⟩
              case measure => simp [intOf]; omega
            · obtain ⟨m, rfl⟩ : ∃ m, j = m + 1 := ⟨j - 1, by omega⟩
              have hmY : m < Y.length := by omega
              obtain ⟨hmR, hRm⟩ := HV.out.get m (Nat.le_succ m) hmY
              have cm := hinv.cell m hmR
              rw [hRm] at cm
              obtain ⟨z, hz⟩ : ∃ z, z = Y[m] := ⟨_, rfl⟩
              rw [← hz] at cm
              have HZ : Hid (z = Y[m]) := hz
              clear hz hRm
              by_cases hzx : x < z
              · have HV' : Hid (Moved Y (R.set (m + 1) z) i m) := by
                  show Moved _ _ _ _
                  rw [HZ.out]
                  exact HV.out.step hiY hji
                have HG' : Hid (∀ q (hq : q < Y.length), m ≤ q → q < i → x < Y[q]) := fun q hq h1 h2 => by
                  by_cases e : q = m
                  · subst e
                    rw [← HZ.out]
                    exact hzx
                  · exact HG.out q hq (by omega) h2
                have hfin' := hinv.set (m + 1) z
                go_wp2
                go_roundw
                case rel => exact ⟨m, _, by omega, rfl, hfin', HV', HG'⟩
                case measure => simp [intOf] <;> omega
              · have HF2 : Hid (Upto (R.set (m + 1) x) (i + 1)) := by
                  have h1 := HG.out
                  have h2 := HZ.out
                  rw [h2] at hzx
                  rw [HXi.out] at h1 hzx ⊢
                  refine HV.out.sorted hiY hji HU.out h1 (fun q hq hqj => ?_)
                  have h3 := HU.out q m hq hmY (by omega) (by omega)
                  omega
                go_wp2
                go_roundw
                case rel => exact ⟨i + 1, _, by omega, by omega, by go_num, hfin, HF1, HF2⟩
                case measure => simp [intOf]; omega
        · have hYl := hinv.len
          have HS : Hid (Upto Y Y.length) := fun a b ha hb hab hbn => HU.out a b ha hb hab (by omega)
          have HYl : Hid (N = Y.length) := hYl
          clear hYl hi1 hiN HU
          go_wp2
          go_loopw [8, 9] (fun s8 s9 wr => ∃ (i : Nat) (D : List Int), i ≤ N ∧ D.length ≤ i ∧ s9 = .int .i64 i ∧ s8 = .int .i64 D.length ∧ CInv w wr Y N L.length ∧ Hid (Distinct Y D i)) (fun _ s9 _ => N - (intOf s9).toNat)
          case atStart => exact ⟨0, [], Nat.zero_le _, Nat.le_refl _, rfl, rfl, hinv, distinct_zero Y⟩
          case round =>
            clear hinv
            obtain ⟨q, D, hq, hDq, rfl, rfl, hinv, HD⟩ := hrel
            by_cases hql : q < N
            · have hqY : q < Y.length := by rw [← HYl.out]; exact hql
              by_cases hq0 : q = 0
              · subst hq0
                have HD' : Hid (Distinct Y (D ++ [Y[0]]) 1) := HD.out.new hqY HS.out (fun h0 => by omega)
                go_wp2
                go_quiet (fail)
                go_wp2
                go_roundw
                case rel => exact ⟨1, _, by omega, by rw [List.length_append, List.length_singleton]; omega, rfl, by rw [List.length_append]; go_num, hinv.drewN _, HD'⟩
                case measure => simp [intOf]; omega
              · obtain ⟨m, hm⟩ : ∃ m, m = q - 1 := ⟨_, rfl⟩
                have hmY : m < Y.length := by omega
                have c1 := hinv.cell q hqY
                have c0 := hinv.cell m hmY
                obtain ⟨x1, hx1⟩ : ∃ x, x = Y[q] := ⟨_, rfl⟩
                obtain ⟨x0, hx0⟩ : ∃ x, x = Y[m] := ⟨_, rfl⟩
                rw [← hx1] at c1
                rw [← hx0] at c0
                have g0 : ((q : Int) == 0) = false := by simp; omega
                have b1 : (m : Int) < (N : Int) := by omega
                have b2 : (0 : Int) ≤ (m : Int) := by omega
                have b3 : (q : Int) < (N : Int) := by omega
                have b4 : (0 : Int) ≤ (q : Int) := by omega
                have hwr : IntKind.i64.wrap ((q : Int) - 1) = (m : Int) := by
                  rw [IntKind.wrap_i64]
                  omega
                by_cases he : x1 = x0
                · have HD' : Hid (Distinct Y D (q + 1)) := by
                    subst hm
                    exact HD.out.old hqY (by omega) (by rw [← hx1, ← hx0]; exact he)
                  have he' : (x1 != x0) = false := by simpa using he
                  clear he hx1 hx0 hm
                  go_wp2
                  go_region_held3 (fun w3 => w3.cell? ⟨w.heap.size, m, none⟩ = some (.int .u32 x0) ∧ w3.cell? ⟨w.heap.size, q, none⟩ = some (.int .u32 x1)) (go_keep) (fail)
                  go_wp2
                  go_roundw
                  case rel => exact ⟨q + 1, D, by omega, by omega, by go_num, rfl, hinv.drew, HD'⟩
                  case measure => simp [intOf]; omega
                · have HD' : Hid (Distinct Y (D ++ [Y[q]]) (q + 1)) := by
                    subst hm
                    exact HD.out.new hqY HS.out (fun _ => by rw [← hx1, ← hx0]; exact he)
                  have he' : (x1 != x0) = true := by simpa using he
                  clear he hx1 hx0 hm
                  go_wp2
                  go_region_held3 (fun w3 => w3.cell? ⟨w.heap.size, m, none⟩ = some (.int .u32 x0) ∧ w3.cell? ⟨w.heap.size, q, none⟩ = some (.int .u32 x1)) (go_keep) (fail)
                  go_wp2
                  go_roundw
                  case rel => exact ⟨q + 1, _, by omega, by rw [List.length_append, List.length_singleton]; omega, by go_num, by rw [List.length_append, List.length_singleton]; go_num, hinv.drew, HD'⟩
                  case measure => simp [intOf]; omega
            · obtain rfl : q = N := by omega
              have HC : Hid (D.length = (firsts (askedE L)).length) := by
                have h1 := HD.out
                rw [HYl.out] at h1
                have h2 := HM.out
                rw [HX1.out] at h2
                exact count_eq h1 h2
              go_wp2
              go_ret
              exact ⟨by rw [← HC.out]; rfl, hinv.below⟩

end Go.Proofs.Qxb6612213a
