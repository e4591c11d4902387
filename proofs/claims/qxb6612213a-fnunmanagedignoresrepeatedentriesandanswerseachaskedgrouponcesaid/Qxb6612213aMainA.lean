/-
  THE WALK OF FnUnmanagedAnswersTheFirstAskOfEachRatingGroupInOrder. Seat b6612213a.
-/
import Derived.Test.Qxb6612213aFirst
import Derived.Deep.RegionHeld3
namespace Go.Proofs.Qxb6612213a
open Go.RowKit Go.Maps

theorem foldl_prefix : ∀ (l acc : List Int), ∃ s, l.foldl addNew acc = acc ++ s
  | [], acc => ⟨[], by simp⟩
  | x :: l, acc => by
    obtain ⟨s, hs⟩ := foldl_prefix l (addNew acc x)
    rw [List.foldl_cons, hs]
    unfold addNew
    split
    · exact ⟨s, rfl⟩
    · exact ⟨[x] ++ s, by simp⟩
theorem firsts_prefix (a b : List Int) : ∃ s, firsts (a ++ b) = firsts a ++ s := by
  unfold firsts
  rw [List.foldl_append]
  exact foldl_prefix b _
theorem askedE_split (L : List Ent) (k : Nat) : askedE L = askedE (L.take k) ++ askedE (L.drop k) := by
  have e : L = L.take k ++ L.drop k := (List.take_append_drop k L).symm
  calc askedE L = askedE (L.take k ++ L.drop k) := by rw [← e]
    _ = _ := by unfold askedE; rw [List.filterMap_append]

/-- A first ask: its answer is the next one. -/
theorem next_first {L : List Ent} {i : Nat} (hi : i < L.length) (ha : L[i].rp.isSome = true) (hn : ¬ L[i].g ∈ askedE (L.take i)) :
    firsts (askedE (L.take (i + 1))) = firsts (askedE (L.take i)) ++ [L[i].g] ∧
      ∃ h : (firsts (askedE (L.take i))).length < (firsts (askedE L)).length, (firsts (askedE L))[(firsts (askedE (L.take i))).length] = L[i].g := by
  have e : firsts (askedE (L.take (i + 1))) = firsts (askedE (L.take i)) ++ [L[i].g] := by rw [askedE_snoc_some hi ha, firsts_new hn]
  refine ⟨e, ?_⟩
  obtain ⟨s, hs⟩ := firsts_prefix (askedE (L.take (i + 1))) (askedE (L.drop (i + 1)))
  rw [← askedE_split, e] at hs
  have hl : (firsts (askedE (L.take i))).length < (firsts (askedE L)).length := by rw [hs]; simp
  refine ⟨hl, ?_⟩
  have : (firsts (askedE L))[(firsts (askedE (L.take i))).length]? = some L[i].g := by rw [hs]; simp
  rw [List.getElem?_eq_getElem hl] at this
  exact Option.some.inj this
/-- An ask that is no first one. -/
theorem no_first {L : List Ent} {i : Nat} (hi : i < L.length) (ha : L[i].rp.isSome = true) (hn : L[i].g ∈ askedE (L.take i)) : firsts (askedE (L.take (i + 1))) = firsts (askedE (L.take i)) := by
  rw [askedE_snoc_some hi ha, firsts_old hn]

theorem EntCells.entsIn {w : World} {g off cap : Nat} {L : List Ent} (h : EntCells w g off L) : EntsIn w (.slice (some ⟨g, off, none⟩) L.length cap) L :=
  ⟨_, cap, rfl, (fun e => by cases e), Or.inr ⟨g, off, rfl, h.1, h.2⟩⟩

/-- The answers' cells. -/
theorem ans_cells {w : World} {base cap g : Nat} {G : List Int} (h : w.ownsRow base 39 4 (.slice (some ⟨g, 0, none⟩) G.length cap) G.length (ansRow G)) (k : Nat) (hk : k < G.length) :
    ∀ j, j < 4 → w.cell? ⟨g, k * 4 + j, none⟩ = (ansCells G[k])[j]? := by
  intro j hj
  have hl : (ansCells G[k]).length = 4 := rfl
  have hu := ansRow_get G k j hk hj
  rw [List.getElem?_eq_getElem (i := j) (by omega)] at hu ⊢
  have := h.cells (g := g) rfl (k * 4 + j) _ hu
  rwa [Addr.add_lit, Nat.zero_add] at this

/-- The answers lie at the slice; nil if there is none. -/
theorem ans_in {w : World} {base : Nat} {v : Value} {G : List Int} (h : w.ownsRow base 39 4 v G.length (ansRow G)) (hn : G = [] → v = .slice none 0 0) :
    ∃ a cap, v = .slice a G.length cap ∧ (G = [] → a = none) ∧ (G = [] ∨ ∃ g, a = some ⟨g, 0, none⟩ ∧ g < w.heap.size ∧ ∀ k (hk : k < G.length), ∀ j, j < 4 → w.cell? ⟨g, k * 4 + j, none⟩ = (ansCells G[k])[j]?) := by
  rcases h.2 with ⟨rfl, h0⟩ | ⟨g, cap, cur, rfl, _⟩
  · exact ⟨none, 0, by rw [h0], fun _ => rfl, Or.inl (List.length_eq_zero_iff.1 h0)⟩
  · refine ⟨_, cap, rfl, fun e => ?_, Or.inr ⟨g, rfl, (h.lt g rfl).2, fun k hk => ans_cells h k hk⟩⟩
    have := hn e
    simp at this
theorem rep_one (L : List Ent) : rep 1 L = L := by simp [rep]
theorem build_1 (v : Value) (L : List Ent) (w : World) (hl : L.length ≤ 65536) (h : EntsIn w v L) : Calls Try.prog 7 #[v, .int .i64 1] w fun e w' => BuildPost 1 L w e w' := build_any v 1 L w hl (by omega) h

theorem named_take_succ {L : List Ent} {k : Nat} (hk : k < L.length) (h : Named (L.take k)) (he : L[k].rp.isSome = true → L[k].gp.isSome = true) : Named (L.take (k + 1)) := by
  intro e hm
  rw [List.take_succ_eq_append_getElem hk] at hm
  rcases List.mem_append.1 hm with h1 | h1
  · exact h e h1
  · simp at h1; subst h1; exact he

set_option maxHeartbeats 4000000 in
theorem walkA_some (g off cap : Nat) (L : List Ent) (w : World) (hl : L.length ≤ maxLen) (hE : EntCells w g off L) :
    Calls Try.prog 3 #[.slice (some ⟨g, off, none⟩) L.length cap] w fun e w' => e = .returned (.bool true) ∧ Below w.heap.size w w' := by
  have HE : Hid (EntCells w g off L) := hE
  have hb5 := bytes5_any (some ⟨g, off, none⟩) L.length cap hl w
  have hg := hE.1
  clear hE
  unfold maxLen at hl
  by_cases h1 : L.length ≤ 1048576
  · rw [decide_eq_true h1] at hb5
    by_cases h2 : 65536 < L.length
    · go_enter Try.func3, Try.ntmps3
      go_wp2_with fail
      refine hb5.mono ?_
      rintro e w' ⟨rfl, rfl⟩
      clear hb5
      go_wp2
      go_ret
      exact ⟨rfl, Below.refl _ _⟩
    · go_enter Try.func3, Try.ntmps3
      go_wp2_with fail
      refine hb5.mono ?_
      rintro e w' ⟨rfl, rfl⟩
      clear hb5
      go_wp2
      go_loop [3] (fun s => ∃ k : Nat, k ≤ L.length ∧ s = .int .i64 k ∧ Hid (Named (L.take k))) (fun s => L.length - (intOf s).toNat)
      case atStart => exact ⟨0, Nat.zero_le _, rfl, fun e he => by simp at he⟩
      case round =>
        obtain ⟨k, hk, rfl, HN⟩ := hrel
        by_cases hlt : k < L.length
        · obtain ⟨d0, d1, _⟩ := HE.out.2 k hlt
          rcases hrp : L[k].rp with _ | ⟨rb, ro⟩
          · rw [hrp] at d1
            have HN' : Hid (Named (L.take (k + 1))) := named_take_succ hlt HN.out (fun e => by rw [hrp] at e; cases e)
            simp only [ptr] at d1
            clear hrp d0
            go_wp2
            go_round
            case rel => exact ⟨k + 1, by omega, by go_num, HN'⟩
            case measure => simp [intOf]; omega
          · rw [hrp] at d1
            rcases hgp : L[k].gp with _ | ⟨gb, go⟩
            · rw [hgp] at d0
              simp only [ptr] at d0 d1
              clear hrp hgp
              go_wp2
              go_ret
              exact ⟨rfl, Below.refl _ _⟩
            · rw [hgp] at d0
              have HN' : Hid (Named (L.take (k + 1))) := named_take_succ hlt HN.out (fun e => by rw [hgp]; rfl)
              simp only [ptr] at d0 d1
              clear hrp hgp
              go_wp2
              go_round
              case rel => exact ⟨k + 1, by omega, by go_num, HN'⟩
              case measure => simp [intOf]; omega
        · obtain rfl : k = L.length := by omega
          have HN1 : Hid (Named L) := by have := HN.out; rwa [List.take_length] at this
          clear HN
          go_wp2_with fail
          refine (build_1 _ L _ (by omega) HE.out.entsIn).mono ?_
          rintro e w1 hB
          obtain ⟨d, he, hb1, hU⟩ := unmanaged_of (by omega) (by omega) HN1.out hB
          subst he
          clear hB
          go_wp2_with fail
          refine hU.mono ?_
          rintro e w2 ⟨v, he, hr, hn, hb2⟩
          rw [rep_one] at hr hn
          obtain ⟨a, capA, hv, hnn, hA⟩ := ans_in hr hn
          subst hv
          subst he
          have hB2 := hb1.trans (hb2.mono hb1.size)
          have HE2 : Hid (EntCells w2 g off L) := HE.out.below hB2
          have hg2 : g < w2.heap.size := HE2.out.1
          have HA : Hid (firsts (askedE L) = [] ∨ ∃ g, a = some ⟨g, 0, none⟩ ∧ g < w2.heap.size ∧ ∀ k (hk : k < (firsts (askedE L)).length), ∀ j, j < 4 → w2.cell? ⟨g, k * 4 + j, none⟩ = (ansCells (firsts (askedE L))[k])[j]?) := hA
          have HNN : Hid (firsts (askedE L) = [] → a = none) := hnn
          have hGl : (firsts (askedE L)).length ≤ 65536 := by
            have h3 := firsts_length_le (askedE L)
            have h4 : (askedE L).length ≤ L.length := List.length_filterMap_le _ _
            omega
          clear hU hr hn hA hnn hb1 hb2
          go_wp2
          go_loopw [5, 6] (fun s5 s6 wr => ∃ i k : Nat, i ≤ L.length ∧ k ≤ i ∧ s6 = .int .i64 i ∧ s5 = .int .i64 k ∧ Hid (k = (firsts (askedE (L.take i))).length) ∧ Below w2.heap.size w2 wr) (fun _ s6 _ => L.length - (intOf s6).toNat)
          case atStart => exact ⟨0, 0, Nat.zero_le _, Nat.le_refl _, rfl, rfl, rfl, Below.refl _ _⟩
          case round =>
            obtain ⟨i, k, hi, hki, rfl, rfl, HK, hnx⟩ := hrel
            by_cases hil : i < L.length
            · obtain ⟨d0, d1, ok⟩ := (HE2.out.below hnx).2 i hil
              have HEr : Hid (EntCells wr g off L) := HE2.out.below hnx
              rcases hrp : L[i].rp with _ | ⟨rb, ro⟩
              · have HK' : Hid (k = (firsts (askedE (L.take (i + 1)))).length) := by show k = _; rw [askedE_snoc_none hil hrp]; exact HK.out
                rw [hrp] at d1
                simp only [ptr] at d1
                clear hrp d0 ok
                go_wp2
                go_roundw
                case rel => exact ⟨i + 1, k, by omega, by omega, by go_num, rfl, HK', hnx⟩
                case measure => simp [intOf]; omega
              · have hask : L[i].rp.isSome = true := by rw [hrp]; rfl
                have hfst := isFirst_any g off cap i L wr (by omega) HN1.out HEr.out hil hask
                have hsm := HN1.out L[i] (List.getElem_mem hil) hask
                obtain ⟨⟨gb, go⟩, hgp⟩ := Option.isSome_iff_exists.1 hsm
                obtain ⟨hgb, hgc, _⟩ := ok.1 gb go hgp
                rw [hrp] at d1
                rw [hgp] at d0
                simp only [ptr] at d0 d1
                by_cases hin : L[i].g ∈ askedE (L.take i)
                · rw [firstB_false hin] at hfst
                  have HK' : Hid (k = (firsts (askedE (L.take (i + 1)))).length) := by show k = _; rw [no_first hil hask hin]; exact HK.out
                  clear hrp hgp hsm ok hask hin
                  go_wp2_with (go_at_call 8; refine hfst.mono ?_; rintro e w' ⟨rfl, rfl⟩)
                  go_roundw
                  case rel => exact ⟨i + 1, k, by omega, by omega, by go_num, rfl, HK', hnx⟩
                  case measure => simp [intOf]; omega
                · rw [firstB_true hin] at hfst
                  obtain ⟨hs, hlt', hgk⟩ := next_first hil hask hin
                  have HK' : Hid (k + 1 = (firsts (askedE (L.take (i + 1)))).length) := by show k + 1 = _; rw [hs, HK.out]; simp
                  obtain ⟨gA, hgA, hgAl, hcA⟩ := HA.out.resolve_left (fun e => by rw [e] at hlt'; simp at hlt')
                  subst hgA
                  simp only [← HK.out] at hlt' hgk
                  have hq := hcA k hlt'
                  rw [hgk] at hq
                  have q0 := (hnx.cell (p := ⟨gA, k * 4, none⟩) hgAl).trans (hq 0 (by omega))
                  have q1 := (hnx.cell (p := ⟨gA, k * 4 + 1, none⟩) hgAl).trans (hq 1 (by omega))
                  have q2 := (hnx.cell (p := ⟨gA, k * 4 + 2, none⟩) hgAl).trans (hq 2 (by omega))
                  have q3 := (hnx.cell (p := ⟨gA, k * 4 + 3, none⟩) hgAl).trans (hq 3 (by omega))
                  simp only [ansCells, List.getElem?_cons_zero, List.getElem?_cons_succ] at q0 q1 q2 q3
                  obtain ⟨gi, hgi⟩ : ∃ x, x = L[i].g := ⟨_, rfl⟩
                  rw [← hgi] at hgc q1
                  clear hrp hgp hsm ok hask hin hs hgk hq hcA hgi
                  go_wp2_with (go_at_call 8; refine hfst.mono ?_; rintro e w' ⟨rfl, rfl⟩)
                  have i1 : (k : Int) < ((firsts (askedE L)).length : Int) := by omega
                  have i2 : (0 : Int) ≤ (k : Int) := by omega
                  have i3 : (i : Int) < (L.length : Int) := by omega
                  have i4 : (0 : Int) ≤ (i : Int) := by omega
                  go_region_held3 (fun w3 => w3.cell? ⟨gA, k * 4, none⟩ = some (.string ⟨#[81, 85, 79, 84, 65, 95, 77, 65, 78, 65, 71, 69, 77, 69, 78, 84, 95, 78, 79, 84, 95, 65, 80, 80, 76, 73, 67, 65, 66, 76, 69]⟩) ∧ w3.cell? ⟨gA, k * 4 + 1, none⟩ = some (.int .u32 gi) ∧ w3.cell? ⟨gA, k * 4 + 2, none⟩ = some (.pointer none) ∧ w3.cell? ⟨gA, k * 4 + 3, none⟩ = some (.pointer none) ∧ w3.cell? ⟨g, off + i * 2, none⟩ = some (.pointer (some ⟨gb, go, none⟩)) ∧ w3.cell? ⟨gb, go, none⟩ = some (.int .u32 gi)) (go_keep)
                    ((go_at_call 9; refine (notApp_any gi _).mono ?_; rintro e w3 ⟨rfl, rfl⟩))
                  go_wp2
                  go_roundw
                  case rel => exact ⟨i + 1, k + 1, by omega, by omega, by go_num, by go_num, HK', (hnx.alloc hnx.size _).drew⟩
                  case measure => simp [intOf]; omega
            · obtain rfl : i = L.length := by omega
              have hkG : k = (firsts (askedE L)).length := by have := HK.out; rwa [List.take_length] at this
              have hfin := hB2.trans (hnx.mono hB2.size)
              by_cases h0 : (firsts (askedE L)).length = 0
              · obtain rfl := HNN.out (List.length_eq_zero_iff.1 h0)
                rw [h0] at hkG
                subst hkG
                have hne := fun w => Lib.run_eql_slice_nil (P := Try.prog) w 28 39 none 0 capA 0 0 Try.underlying28
                clear HK
                rw [h0]
                clear h0 hGl HA HNN
                go_wp2
                go_ret
                exact ⟨rfl, hfin⟩
              · have HKG : Hid (k = (firsts (askedE L)).length) := hkG
                have hk0 : ((k : Int) == 0) = false := by simp; omega
                have hkk : ((k : Int) == ((firsts (askedE L)).length : Int)) = true := by simp [hkG]
                clear hkG HK
                go_wp2
                go_ret
                exact ⟨by simp [HKG.out], hfin⟩
  · rw [decide_eq_false h1] at hb5
    go_enter Try.func3, Try.ntmps3
    go_wp2_with fail
    refine hb5.mono ?_
    rintro e w' ⟨rfl, rfl⟩
    clear hb5
    go_wp2
    go_ret
    exact ⟨rfl, Below.refl _ _⟩

set_option maxHeartbeats 1000000 in
theorem walkA_none (a : Option Addr) (cap : Nat) (w : World) (h : EntsIn w (.slice a 0 cap) []) :
    Calls Try.prog 3 #[.slice a 0 cap] w fun e w' => e = .returned (.bool true) ∧ Below w.heap.size w w' := by
  have hb5 := bytes5_any a 0 cap (Nat.zero_le _) w
  rw [decide_eq_true (by omega)] at hb5
  have hbd := build_1 _ [] w (by simp) h
  have hne := fun w => Lib.run_eql_slice_nil (P := Try.prog) w 28 39 none 0 0 0 0 Try.underlying28
  clear h
  go_enter Try.func3, Try.ntmps3
  go_wp2_with (go_at_call 5; refine hb5.mono ?_; rintro e w' ⟨rfl, rfl⟩)
  refine wp_loop_rounds 1 ?_
  rw [rounds_succ]
  go_wp2_with fail
  refine hbd.mono ?_
  rintro e w1 hB
  obtain ⟨d, he, hb1, hU⟩ := unmanaged_of (by simp) (by omega) (fun e he => by simp at he) hB
  subst he
  clear hB hbd hb5
  go_wp2_with fail
  refine hU.mono ?_
  rintro e w2 ⟨v, he, hr, hn, hb2⟩
  obtain rfl := hn (by rw [rep_one]; rfl)
  subst he
  have hfin := hb1.trans (hb2.mono hb1.size)
  clear hU hr hn hb1 hb2
  go_wp2
  refine wp_loop_rounds 1 ?_
  rw [rounds_succ]
  go_wp2
  go_ret
  exact ⟨rfl, hfin⟩

theorem walkA_any (v : Value) (L : List Ent) (w : World) (hl : L.length ≤ maxLen) (h : EntsIn w v L) :
    Calls Try.prog 3 #[v] w fun e w' => e = .returned (.bool true) ∧ Below w.heap.size w w' := by
  have h0 := h
  obtain ⟨a, cap, rfl, hn, h⟩ := h
  rcases h with rfl | ⟨g, off, rfl, hg, hc⟩
  · exact walkA_none a cap w h0
  · exact walkA_some g off cap L w hl ⟨hg, hc⟩

end Go.Proofs.Qxb6612213a
