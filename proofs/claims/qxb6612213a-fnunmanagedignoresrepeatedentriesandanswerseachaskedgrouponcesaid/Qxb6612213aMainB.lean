/-
  THE WALK OF FnUnmanagedIgnoresRepeatedEntriesAndAnswersEachAskedGroupOnce. Seat b6612213a.
-/
import Derived.Test.Qxb6612213aSame
import Derived.Test.Qxb6612213aMainA
namespace Go.Proofs.Qxb6612213a
open Go.RowKit Go.Maps

theorem asked_two (L : List Ent) : firsts (askedE (rep 2 L)) = firsts (askedE L) := by
  rw [asked_rep, rep_one, firsts_twice]
theorem build_2 (v : Value) (L : List Ent) (w : World) (hl : L.length ≤ 65536) (h : EntsIn w v L) : Calls Try.prog 7 #[v, .int .i64 2] w fun e w' => BuildPost 2 L w e w' := build_any v 2 L w hl (by omega) h

theorem EntsIn.below {w w' : World} {v : Value} {L : List Ent} (h : EntsIn w v L) (hb : Below w.heap.size w w') : EntsIn w' v L := by
  obtain ⟨a, cap, hv, hn, h⟩ := h
  refine ⟨a, cap, hv, hn, ?_⟩
  rcases h with h | ⟨g, off, ha, hg, hc⟩
  · exact Or.inl h
  · exact Or.inr ⟨g, off, ha, (EntCells.below ⟨hg, hc⟩ hb)⟩
theorem ownsRow_below {w w' : World} {base n : Nat} {e : TypeId} {size : Nat} {v : Value} {xs : List Value} (h : w.ownsRow base e size v n xs) (hb : Below w.heap.size w w') : w'.ownsRow base e size v n xs := by
  obtain ⟨hl, hv⟩ := h
  refine ⟨hl, ?_⟩
  rcases hv with hv | ⟨g, cap, cur, e1, hg, hh, rest⟩
  · exact Or.inl hv
  · exact Or.inr ⟨g, cap, cur, e1, hg, (hb.block g (Array.getElem?_eq_some_iff.1 hh).1).trans hh, rest⟩

theorem below_two {a w : World} (h : Below a.heap.size a w) (o o' : Obj) (n : Nat) : Below a.heap.size a (((w.alloc o).alloc o').drewN n) := by
  have h1 := h.alloc h.size o
  have h2 := h1.alloc h1.size o'
  exact below_drewN h2 n

set_option maxHeartbeats 4000000 in
theorem walkB_any (a0 : Option Addr) (n cap : Nat) (L : List Ent) (w : World) (hl : L.length ≤ maxLen) (h : EntsIn w (.slice a0 n cap) L) :
    Calls Try.prog 4 #[.slice a0 n cap] w fun e w' => e = .returned (.bool true) ∧ Below w.heap.size w w' := by
  have H0 : Hid (EntsIn w (.slice a0 n cap) L) := h
  obtain ⟨a', cap', hv, hnn, h⟩ := h
  simp only [Value.slice.injEq] at hv
  obtain ⟨rfl, rfl, rfl⟩ := hv
  have HC : Hid (L = [] ∨ ∃ g off, a0 = some ⟨g, off, none⟩ ∧ g < w.heap.size ∧ ∀ i (h : i < L.length), w.cell? ⟨g, off + i * 2, none⟩ = some (ptr L[i].gp) ∧ w.cell? ⟨g, off + i * 2 + 1, none⟩ = some (ptr L[i].rp) ∧ EntOk w L[i]) := h
  clear h hnn
  have hb5 := bytes10_any a0 L.length cap hl w
  unfold maxLen at hl
  by_cases h1 : L.length ≤ 1048576
  · rw [decide_eq_true h1] at hb5
    by_cases h2 : 32768 < L.length
    · go_enter Try.func4, Try.ntmps4
      go_wp2_with fail
      refine hb5.mono ?_
      rintro e w' ⟨rfl, rfl⟩
      clear hb5
      go_wp2
      go_ret
      exact ⟨rfl, Below.refl _ _⟩
    · go_enter Try.func4, Try.ntmps4
      go_wp2_with fail
      refine hb5.mono ?_
      rintro e w' ⟨rfl, rfl⟩
      clear hb5
      go_wp2
      go_loop [3] (fun s => ∃ k : Nat, k ≤ L.length ∧ s = .int .i64 k ∧ Hid (Named (L.take k))) (fun s => L.length - (intOf s).toNat)
      case atStart => exact ⟨0, Nat.zero_le _, rfl, fun e he => by simp at he⟩
      case round =>
        obtain ⟨k, hk, rfl, HN⟩ := hrel
        by_cases hlt : k < L.length
        · obtain ⟨g, off, ha, hg, hc⟩ := HC.out.resolve_left (fun e => by rw [e] at hlt; simp at hlt)
          subst ha
          obtain ⟨d0, d1, _⟩ := hc k hlt
          clear hc
          rcases hrp : L[k].rp with _ | ⟨rb, ro⟩
          · rw [hrp] at d1
            have HN' : Hid (Named (L.take (k + 1))) := named_take_succ hlt HN.out (fun e => by rw [hrp] at e; cases e)
            simp only [ptr] at d1
            clear hrp d0
            go_wp2
            go_round
            case rel => exact ⟨k + 1, by omega, by go_num, HN'⟩
            case measure => simp [intOf]; omega
          · rw [hrp] at d1
            rcases hgp : L[k].gp with _ | ⟨gb, go⟩
            · rw [hgp] at d0
              simp only [ptr] at d0 d1
              clear hrp hgp
              go_wp2
              go_ret
              exact ⟨rfl, Below.refl _ _⟩
            · rw [hgp] at d0
              have HN' : Hid (Named (L.take (k + 1))) := named_take_succ hlt HN.out (fun e => by rw [hgp]; rfl)
              simp only [ptr] at d0 d1
              clear hrp hgp
              go_wp2
              go_round
              case rel => exact ⟨k + 1, by omega, by go_num, HN'⟩
              case measure => simp [intOf]; omega
        · obtain rfl : k = L.length := by omega
          have HN1 : Hid (Named L) := by have := HN.out; rwa [List.take_length] at this
          clear HN
          go_wp2_with fail
          refine (build_1 _ L _ (by omega) H0.out).mono ?_
          rintro e w1 hB
          obtain ⟨d, he, hb1, hU⟩ := unmanaged_of (by omega) (by omega) HN1.out hB
          subst he
          clear hB
          go_wp2_with fail
          refine hU.mono ?_
          rintro e w2 ⟨v, he, hr, hn, hb2⟩
          rw [rep_one] at hr hn
          obtain ⟨a, capA, hv, hnA, _⟩ := ans_in hr hn
          subst hv
          subst he
          have hB2 := hb1.trans (hb2.mono hb1.size)
          clear hU hn hb1 hb2
          go_wp2_with fail
          refine (build_2 _ L _ (by omega) (H0.out.below hB2)).mono ?_
          rintro e w3 hB
          obtain ⟨d', he, hb3, hU⟩ := unmanaged_of (by omega) (by omega) HN1.out hB
          subst he
          clear hB
          have hr3 := ownsRow_below hr hb3
          go_wp2_with fail
          refine hU.mono ?_
          rintro e w4 ⟨v, he, hrB, hn, hb4⟩
          rw [asked_two] at hrB hn
          obtain ⟨b, capB, hv, hnB, _⟩ := ans_in hrB hn
          subst hv
          subst he
          have hB4 := (hB2.trans (hb3.mono hB2.size)).trans (hb4.mono (Nat.le_trans hB2.size hb3.size))
          have hr4 := ownsRow_below hr3 hb4
          clear hU hn hb3 hb4 hB2 hr hr3
          go_wp2_with fail
          refine (count_any _ L _ (by omega) HN1.out (H0.out.below hB4)).mono ?_
          rintro e w5 ⟨rfl, hb5⟩
          have hB5 := hB4.trans (hb5.mono hB4.size)
          have hA5 := ownsRow_below hr4 hb5
          have hBB5 := ownsRow_below hrB hb5
          clear hr4 hrB hb5 hB4
          by_cases h0 : (firsts (askedE L)).length = 0
          · obtain rfl := hnA (List.length_eq_zero_iff.1 h0)
            obtain rfl := hnB (List.length_eq_zero_iff.1 h0)
            have hne := fun w c => Lib.run_eql_slice_nil (P := Try.prog) w 28 39 none 0 c 0 0 Try.underlying28
            clear hA5 hBB5 hnA hnB
            rw [h0]
            clear h0
            go_wp2
            refine wp_loop_rounds 1 ?_
            rw [rounds_succ]
            go_wp2
            go_ret
            exact ⟨rfl, hB5⟩
          · have hne0 : firsts (askedE L) ≠ [] := fun e => h0 (by rw [e]; rfl)
            obtain ⟨gA, hgA⟩ : ∃ gA, a = some ⟨gA, 0, none⟩ := by
              rcases hA5.2 with ⟨_, e⟩ | ⟨g, cap, cur, e, _⟩
              · exact absurd e h0
              · simp only [Value.slice.injEq] at e
                exact ⟨g, e.1⟩
            obtain ⟨gB, hgB⟩ : ∃ gB, b = some ⟨gB, 0, none⟩ := by
              rcases hBB5.2 with ⟨_, e⟩ | ⟨g, cap, cur, e, _⟩
              · exact absurd e h0
              · simp only [Value.slice.injEq] at e
                exact ⟨g, e.1⟩
            subst hgA
            subst hgB
            have hneA := fun w n c => Lib.run_eql_slice_nil (P := Try.prog) w 28 39 (some ⟨gA, 0, none⟩) n c 0 0 Try.underlying28
            have hneB := fun w n c => Lib.run_eql_slice_nil (P := Try.prog) w 28 39 (some ⟨gB, 0, none⟩) n c 0 0 Try.underlying28
            have HcA := ans_cells hA5
            have HcB := ans_cells hBB5
            have hgAl := (hA5.lt gA rfl).2
            have hgBl := (hBB5.lt gB rfl).2
            have hGl : (firsts (askedE L)).length ≤ 65536 := by
              have h3 := firsts_length_le (askedE L)
              have h4 : (askedE L).length ≤ L.length := List.length_filterMap_le _ _
              omega
            generalize firsts (askedE L) = G at *
            clear hA5 hBB5 hnA hnB h0 hne0
            go_wp2
            go_loopw [6] (fun s6 wr => ∃ k : Nat, k ≤ G.length ∧ s6 = .int .i64 k ∧ Below w5.heap.size w5 wr) (fun s6 _ => G.length - (intOf s6).toNat)
            case atStart => exact ⟨0, Nat.zero_le _, rfl, Below.refl _ _⟩
            case round =>
              obtain ⟨k, hk, rfl, hnx⟩ := hrel
              by_cases hkl : k < G.length
              · have pA := HcA k hkl
                have pB := HcB k hkl
                obtain ⟨x, hx⟩ : ∃ x, x = G[k] := ⟨_, rfl⟩
                rw [← hx] at pA pB
                have q0 := (hnx.cell (p := ⟨gA, k * 4, none⟩) hgAl).trans (pA 0 (by omega))
                have q1 := (hnx.cell (p := ⟨gA, k * 4 + 1, none⟩) hgAl).trans (pA 1 (by omega))
                have q2 := (hnx.cell (p := ⟨gA, k * 4 + 2, none⟩) hgAl).trans (pA 2 (by omega))
                have q3 := (hnx.cell (p := ⟨gA, k * 4 + 3, none⟩) hgAl).trans (pA 3 (by omega))
                have r0 := (hnx.cell (p := ⟨gB, k * 4, none⟩) hgBl).trans (pB 0 (by omega))
                have r1 := (hnx.cell (p := ⟨gB, k * 4 + 1, none⟩) hgBl).trans (pB 1 (by omega))
                have r2 := (hnx.cell (p := ⟨gB, k * 4 + 2, none⟩) hgBl).trans (pB 2 (by omega))
                have r3 := (hnx.cell (p := ⟨gB, k * 4 + 3, none⟩) hgBl).trans (pB 3 (by omega))
                simp only [ansCells, List.getElem?_cons_zero, List.getElem?_cons_succ] at q0 q1 q2 q3 r0 r1 r2 r3
                have hsame := same_any x
                unfold ansArr at hsame
                clear hx pA pB HcA HcB
                have i1 : (k : Int) < (G.length : Int) := by omega
                have i2 : (0 : Int) ≤ (k : Int) := by omega
                have zA : gA < wr.heap.size := Nat.lt_of_lt_of_le hgAl hnx.size
                have zB : gB < wr.heap.size := Nat.lt_of_lt_of_le hgBl hnx.size
                go_wp2
                go_region_held3 (fun w3 => w3.cell? ⟨gA, k * 4, none⟩ = some (.string ⟨#[81, 85, 79, 84, 65, 95, 77, 65, 78, 65, 71, 69, 77, 69, 78, 84, 95, 78, 79, 84, 95, 65, 80, 80, 76, 73, 67, 65, 66, 76, 69]⟩) ∧ w3.cell? ⟨gA, k * 4 + 1, none⟩ = some (.int .u32 x) ∧ w3.cell? ⟨gA, k * 4 + 2, none⟩ = some (.pointer none) ∧ w3.cell? ⟨gA, k * 4 + 3, none⟩ = some (.pointer none) ∧ w3.cell? ⟨gB, k * 4, none⟩ = some (.string ⟨#[81, 85, 79, 84, 65, 95, 77, 65, 78, 65, 71, 69, 77, 69, 78, 84, 95, 78, 79, 84, 95, 65, 80, 80, 76, 73, 67, 65, 66, 76, 69]⟩) ∧ w3.cell? ⟨gB, k * 4 + 1, none⟩ = some (.int .u32 x) ∧ w3.cell? ⟨gB, k * 4 + 2, none⟩ = some (.pointer none) ∧ w3.cell? ⟨gB, k * 4 + 3, none⟩ = some (.pointer none)) (go_keep)
                  ((go_at_call 12; refine (hsame _).mono ?_; rintro e w3 ⟨rfl, nn, rfl⟩))
                go_wp2
                go_roundw
                case rel => exact ⟨k + 1, by omega, by go_num, below_two hnx _ _ _⟩
                case measure => simp [intOf]; omega
              · clear HcA HcB
                go_wp2
                go_ret
                exact ⟨rfl, hB5.trans (hnx.mono hB5.size)⟩
  · rw [decide_eq_false h1] at hb5
    go_enter Try.func4, Try.ntmps4
    go_wp2_with fail
    refine hb5.mono ?_
    rintro e w' ⟨rfl, rfl⟩
    clear hb5
    go_wp2
    go_ret
    exact ⟨rfl, Below.refl _ _⟩

end Go.Proofs.Qxb6612213a
