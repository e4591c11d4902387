/-
  buildUsageRequest at a nil slice and at an empty one; the request handed to unmanaged. Seat b6612213a.
-/
import Derived.Test.Qxb6612213aBuild
namespace Go.Proofs.Qxb6612213a
open Go.RowKit Go.Maps

theorem rep_nil (r : Nat) : rep r [] = [] := by
  induction r with
  | zero => rfl
  | succ r ih => rw [rep_succ, ih]; rfl

theorem req5_new (w : World) : (w.alloc (.cells reqCells 48)).cell? ⟨w.heap.size, 5, none⟩ = some (.slice none 0 0) := by
  rw [cell_of_row _ w.heap.size 5 _ 48 (0, 0) (heap_alloc_new w _)]; rfl

theorem build_nil (cap r : Nat) (w : World) : Calls Try.prog 7 #[.slice none 0 cap, .int .i64 r] w fun e w' => BuildPost r [] w e w' := by
  have hne := fun w => Lib.run_eql_slice_nil (P := Try.prog) w 22 27 none 0 cap 0 0 Try.underlying22
  go_enter Try.func7, Try.ntmps7
  go_wp2
  go_ret
  exact ⟨w.heap.size, _, [], rfl, req5_new w, ⟨none, 0, rfl, Or.inl rfl⟩, by simp, by rw [rep_nil]; rfl, (Below.refl _ _).alloc (Nat.le_refl _) _⟩

set_option maxHeartbeats 1000000 in
theorem build_empty (a : Addr) (cap r : Nat) (w : World) (hr : r ≤ 2) : Calls Try.prog 7 #[.slice (some a) 0 cap, .int .i64 r] w fun e w' => BuildPost r [] w e w' := by
  have hne := fun w => Lib.run_eql_slice_nil (P := Try.prog) w 22 27 (some a) 0 cap 0 0 Try.underlying22
  obtain ⟨i0, hi, hz0, hz1, hz2⟩ := info_parts info51
  go_enter Try.func7, Try.ntmps7
  go_wp2_with (at_make; go_must (refine wpList_make_own _ rfl _ _ 44 rfl (w.heap.size + 1) 51 i0 _ 3 Try.underlying44 hi hz0 hz1 .i64 .i64 _ 0 rfl rfl (by omega) (by rw [hz2]; omega) (by unfold maxLen; omega) (by simp) ?_); intro w1 hown1 hgrow1)
  have hinv := binv_start hown1 hgrow1
  clear hown1 hgrow1 hne
  go_loop [6, 7] (fun v i => ∃ j : Nat, j ≤ r ∧ i = .int .i64 j ∧ v = .slice (some ⟨w.heap.size + 1, 0, none⟩) 0 0) (fun _ i => r - (intOf i).toNat)
  case atStart => exact ⟨0, Nat.zero_le _, rfl, rfl⟩
  case round =>
    obtain ⟨j, hj, rfl, rfl⟩ := hrel
    by_cases hjr : j < r
    · go_wp2
      refine wp_loop_rounds 1 ?_
      rw [rounds_succ]
      go_wp2
      go_round
      case rel => exact ⟨j + 1, by omega, by go_num, rfl⟩
      case measure => simp [intOf]; omega
    · obtain rfl : j = r := by omega
      obtain ⟨q5, f5⟩ := hinv.req5
      go_wp2
      go_ret
      exact hinv.final (by rw [rep_nil]; rfl)

theorem build_any (v : Value) (r : Nat) (L : List Ent) (w : World) (hl : L.length ≤ 65536) (hr : r ≤ 2) (h : EntsIn w v L) :
    Calls Try.prog 7 #[v, .int .i64 r] w fun e w' => BuildPost r L w e w' := by
  obtain ⟨a, cap, rfl, hn, h⟩ := h
  rcases h with rfl | ⟨g, off, rfl, hg, hc⟩
  · cases a with
    | none => exact build_nil cap r w
    | some a => exact build_empty a cap r w hr
  · exact build_some g off cap r _ L w hl hr rfl hg hc

/-- The groups asked for by the entries. -/
def askedE (L : List Ent) : List Int := L.filterMap fun e => if e.rp.isSome then some e.g else none

theorem asked_shape {Ms : List Mu} {L : List Ent} (h : Ms.map Mu.shape = L.map Ent.shape) : asked Ms = askedE L := by
  have e1 : asked Ms = (Ms.map Mu.shape).filterMap fun s => if s.2.2 then some s.2.1 else none := by unfold asked; rw [List.filterMap_map]; rfl
  have e2 : askedE L = (L.map Ent.shape).filterMap fun s => if s.2.2 then some s.2.1 else none := by unfold askedE; rw [List.filterMap_map]; rfl
  rw [e1, e2, h]

/-- Whoever asks names a rating group. -/
def Named (L : List Ent) : Prop := ∀ e ∈ L, e.rp.isSome = true → e.gp.isSome = true

theorem named_shape {Ms : List Mu} {L : List Ent} (h : Ms.map Mu.shape = L.map Ent.shape) (hL : Named L) : ∀ m ∈ Ms, m.rp.isSome = true → m.gp.isSome = true := by
  intro m hm hr
  have : m.shape ∈ L.map Ent.shape := by rw [← h]; exact List.mem_map_of_mem hm
  obtain ⟨e, he, hs⟩ := List.mem_map.1 this
  simp only [Mu.shape, Ent.shape, Prod.mk.injEq] at hs
  rw [← hs.1]
  exact hL e he (by rw [hs.2.2]; exact hr)
theorem named_rep (r : Nat) {L : List Ent} (h : Named L) : Named (rep r L) := by
  intro e he
  simp only [rep, List.mem_flatten, List.mem_replicate] at he
  obtain ⟨l, ⟨_, rfl⟩, hl⟩ := he
  exact h e hl
theorem asked_rep (r : Nat) (L : List Ent) : askedE (rep (r + 1) L) = askedE (rep r L) ++ askedE L := by
  rw [rep_succ]; simp [askedE]

/-- WHAT THE LAWS USE: the answers to the request built of r times the entries. -/
def Answers (G : List Int) (w : World) (e : Ending) (w' : World) : Prop :=
  ∃ v, e = .returned v ∧ w'.ownsRow w.heap.size 39 4 v G.length (ansRow G) ∧ (G = [] → v = .slice none 0 0) ∧ Below w.heap.size w w'

/-- The request that was built, handed to ZZunmanaged. -/
theorem unmanaged_of {r : Nat} {L : List Ent} {w w1 : World} {e : Ending} (hl : L.length ≤ 65536) (hr : r ≤ 2) (hL : Named L) (h : BuildPost r L w e w1) :
    ∃ d, e = .returned (.pointer (some ⟨d, 0, none⟩)) ∧ Below w.heap.size w w1 ∧ Calls Try.prog 6 #[.pointer (some ⟨d, 0, none⟩)] w1 fun e w' => Answers (firsts (askedE (rep r L))) w1 e w' := by
  obtain ⟨d, v, Ms, he, hd, hin, hok, hs, hb⟩ := h
  refine ⟨d, he, hb, ?_⟩
  have hlen : Ms.length = r * L.length := by
    have := congrArg List.length hs
    simpa [rep_length] using this
  have hml : Ms.length ≤ 1000000 := by
    rw [hlen]
    exact Nat.le_trans (Nat.mul_le_mul hr hl) (by omega)
  refine (zzunmanaged_any d v Ms w1 hml (fun m hm => ⟨hok m hm, named_shape hs (named_rep r hL) m hm⟩) hd hin).mono ?_
  rintro e w' ⟨v, he, hr, hn, hb⟩
  rw [asked_shape hs] at hr hn
  exact ⟨v, he, hr, hn, hb⟩

end Go.Proofs.Qxb6612213a
