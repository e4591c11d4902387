/-
  isFirstAsk, isNotApplicable, the two tests of size. Seat b6612213a.
-/
import Derived.Test.Qxb6612213aBuild2
namespace Go.Proofs.Qxb6612213a
open Go.RowKit Go.Maps

theorem bytes5_any (a : Option Addr) (n cap : Nat) (hn : n ≤ maxLen) (w : World) : Calls Try.prog 5 #[.slice a n cap] w fun e w' => e = .returned (.bool (decide (n ≤ 1048576))) ∧ w' = w := by
  unfold maxLen at hn
  by_cases h : n ≤ 1048576
  · rw [decide_eq_true h]
    go_enter Try.func5, Try.ntmps5
    go_wp2
    go_ret
    exact ⟨rfl, rfl⟩
  · rw [decide_eq_false h]
    go_enter Try.func5, Try.ntmps5
    go_wp2
    go_ret
    exact ⟨rfl, rfl⟩
theorem bytes10_any (a : Option Addr) (n cap : Nat) (hn : n ≤ maxLen) (w : World) : Calls Try.prog 10 #[.slice a n cap] w fun e w' => e = .returned (.bool (decide (n ≤ 1048576))) ∧ w' = w := by
  unfold maxLen at hn
  by_cases h : n ≤ 1048576
  · rw [decide_eq_true h]
    go_enter Try.func10, Try.ntmps10
    go_wp2
    go_ret
    exact ⟨rfl, rfl⟩
  · rw [decide_eq_false h]
    go_enter Try.func10, Try.ntmps10
    go_wp2
    go_ret
    exact ⟨rfl, rfl⟩

/-- isNotApplicable at an answer of unmanaged's, for its own group. -/
theorem notApp_any (x : Int) (w : World) :
    Calls Try.prog 9 #[.agg #[.string ⟨#[81, 85, 79, 84, 65, 95, 77, 65, 78, 65, 71, 69, 77, 69, 78, 84, 95, 78, 79, 84, 95, 65, 80, 80, 76, 73, 67, 65, 66, 76, 69]⟩, .int .u32 x, .pointer none, .pointer none], .int .u32 x] w
      fun e w' => e = .returned (.bool true) ∧ w' = w.alloc (.cells #[.string ⟨#[81, 85, 79, 84, 65, 95, 77, 65, 78, 65, 71, 69, 77, 69, 78, 84, 95, 78, 79, 84, 95, 65, 80, 80, 76, 73, 67, 65, 66, 76, 69]⟩, .int .u32 x, .pointer none, .pointer none] 39) := by
  go_enter Try.func9, Try.ntmps9
  go_wp2
  go_ret
  exact ⟨rfl, rfl⟩

/-- What is known of the entries' memory, index by index, in whatever later world. -/
def EntCells (w : World) (g off : Nat) (L : List Ent) : Prop :=
  g < w.heap.size ∧ ∀ i (h : i < L.length), w.cell? ⟨g, off + i * 2, none⟩ = some (ptr L[i].gp) ∧ w.cell? ⟨g, off + i * 2 + 1, none⟩ = some (ptr L[i].rp) ∧ EntOk w L[i]

theorem EntOk.below {w w' : World} {e : Ent} (h : EntOk w e) (hb : Below w.heap.size w w') : EntOk w' e := by
  refine ⟨fun b o he => ?_, fun b o he => ?_⟩
  · obtain ⟨h1, h2, h3⟩ := h.1 b o he
    exact ⟨Nat.lt_of_lt_of_le h1 hb.size, (hb.cell (p := ⟨b, o, none⟩) h1).trans h2, h3⟩
  · obtain ⟨h1, h2, h3, h4, h5, h6⟩ := h.2 b o he
    exact ⟨Nat.lt_of_lt_of_le h1 hb.size, (hb.cell (p := ⟨b, _, none⟩) h1).trans h2, (hb.cell (p := ⟨b, _, none⟩) h1).trans h3, (hb.cell (p := ⟨b, _, none⟩) h1).trans h4, (hb.cell (p := ⟨b, _, none⟩) h1).trans h5, (hb.cell (p := ⟨b, _, none⟩) h1).trans h6⟩
theorem EntCells.below {w w' : World} {g off : Nat} {L : List Ent} (h : EntCells w g off L) (hb : Below w.heap.size w w') : EntCells w' g off L :=
  ⟨Nat.lt_of_lt_of_le h.1 hb.size, fun i hi => ⟨(hb.cell (p := ⟨g, _, none⟩) h.1).trans (h.2 i hi).1, (hb.cell (p := ⟨g, _, none⟩) h.1).trans (h.2 i hi).2.1, (h.2 i hi).2.2.below hb⟩⟩

theorem askedE_add_none (l : List Ent) {e : Ent} (h : e.rp = none) : askedE (l ++ [e]) = askedE l := by simp [askedE, h]
theorem askedE_add_some (l : List Ent) {e : Ent} (h : e.rp.isSome = true) : askedE (l ++ [e]) = askedE l ++ [e.g] := by simp [askedE, h]
theorem askedE_snoc_none {L : List Ent} {k : Nat} (hk : k < L.length) (h : L[k].rp = none) : askedE (L.take (k + 1)) = askedE (L.take k) := by
  rw [List.take_succ_eq_append_getElem hk, askedE_add_none _ h]
theorem askedE_snoc_some {L : List Ent} {k : Nat} (hk : k < L.length) (h : L[k].rp.isSome = true) : askedE (L.take (k + 1)) = askedE (L.take k) ++ [L[k].g] := by
  rw [List.take_succ_eq_append_getElem hk, askedE_add_some _ h]
theorem askedE_mono {L : List Ent} {j i : Nat} (h : j ≤ i) {x : Int} (hx : x ∈ askedE (L.take j)) : x ∈ askedE (L.take i) := by
  have e : L.take j = (L.take i).take j := by rw [List.take_take, Nat.min_eq_left h]
  rw [e] at hx
  simp only [askedE, List.mem_filterMap] at hx ⊢
  obtain ⟨a, ha, r⟩ := hx
  exact ⟨a, List.mem_of_mem_take ha, r⟩

/-- Has no entry before i asked for x? -/
def firstB (L : List Ent) (i : Nat) (x : Int) : Bool := decide (¬ x ∈ askedE (L.take i))
theorem firstB_true {L : List Ent} {i : Nat} {x : Int} (h : ¬ x ∈ askedE (L.take i)) : firstB L i x = true := decide_eq_true h
theorem firstB_false {L : List Ent} {i : Nat} {x : Int} (h : x ∈ askedE (L.take i)) : firstB L i x = false := decide_eq_false (not_not_intro h)

set_option maxHeartbeats 1000000 in
theorem isFirst_any (g off cap i : Nat) (L : List Ent) (w : World) (hl : L.length ≤ 65536) (hL : Named L) (hE : EntCells w g off L) (hi : i < L.length) (hask : L[i].rp.isSome = true) :
    Calls Try.prog 8 #[.slice (some ⟨g, off, none⟩) L.length cap, .int .i64 i] w fun e w' => e = .returned (.bool (firstB L i L[i].g)) ∧ w' = w := by
  obtain ⟨c0, _, ok⟩ := hE.2 i hi
  have hsm := hL L[i] (List.getElem_mem hi) hask
  obtain ⟨⟨gb, go⟩, hgp⟩ := Option.isSome_iff_exists.1 hsm
  obtain ⟨_, hgc, _⟩ := ok.1 gb go hgp
  rw [hgp] at c0
  simp only [ptr] at c0
  have HE : Hid (EntCells w g off L) := hE
  have HL : Hid (Named L) := hL
  obtain ⟨gi, hgi⟩ : ∃ x, x = L[i].g := ⟨_, rfl⟩
  rw [← hgi] at hgc ⊢
  have HG : Hid (gi = L[i].g) := hgi
  clear hE hL ok hgp hsm hask hgi
  go_enter Try.func8, Try.ntmps8
  go_wp2
  go_loop [6] (fun s => ∃ j : Nat, j ≤ i ∧ s = .int .i64 j ∧ Hid (¬ gi ∈ askedE (L.take j))) (fun s => i - (intOf s).toNat)
  case atStart => exact ⟨0, Nat.zero_le _, rfl, by show ¬ _; simp [askedE]⟩
  case round =>
    obtain ⟨j, hj, rfl, HN⟩ := hrel
    by_cases hlt : j < i
    · have hjl : j < L.length := by omega
      obtain ⟨d0, d1, ok⟩ := HE.out.2 j hjl
      rcases hrp : L[j].rp with _ | ⟨rb, ro⟩
      · rw [hrp] at d1
        simp only [ptr] at d1
        have HN' : Hid (¬ gi ∈ askedE (L.take (j + 1))) := by show ¬ _; rw [askedE_snoc_none hjl hrp]; exact HN.out
        clear hrp d0 ok
        go_wp2
        go_round
        case rel => exact ⟨j + 1, by omega, by go_num, HN'⟩
        case measure => simp [intOf]; omega
      · have hsm := HL.out L[j] (List.getElem_mem hjl) (by rw [hrp]; rfl)
        obtain ⟨⟨b, o⟩, hgp⟩ := Option.isSome_iff_exists.1 hsm
        obtain ⟨_, hjc, _⟩ := ok.1 b o hgp
        have es := askedE_snoc_some hjl (by rw [hrp]; rfl)
        rw [hgp] at d0
        rw [hrp] at d1
        simp only [ptr] at d0 d1
        obtain ⟨gj, hgj⟩ : ∃ x, x = L[j].g := ⟨_, rfl⟩
        rw [← hgj] at hjc es
        clear hgp hrp hsm ok hgj
        by_cases he : gj = gi
        · have HF : Hid (gi ∈ askedE (L.take i)) := askedE_mono (j := j + 1) (by omega) (by rw [es, he]; simp)
          clear es
          have hb : (gj == gi) = true := by simpa using he
          clear he
          go_wp2
          go_ret
          exact ⟨by rw [firstB_false HF.out]; rfl, rfl⟩
        · have HN' : Hid (¬ gi ∈ askedE (L.take (j + 1))) := by
            show ¬ _
            rw [es]
            simp only [List.mem_append, List.mem_singleton, not_or]
            exact ⟨HN.out, fun e => he e.symm⟩
          clear es
          have hb : (gj == gi) = false := by simpa using he
          clear he
          go_wp2
          go_round
          case rel => exact ⟨j + 1, by omega, by go_num, HN'⟩
          case measure => simp [intOf]; omega
    · obtain rfl : j = i := by omega
      go_wp2
      go_ret
      exact ⟨by rw [firstB_true HN.out]; rfl, rfl⟩

end Go.Proofs.Qxb6612213a
