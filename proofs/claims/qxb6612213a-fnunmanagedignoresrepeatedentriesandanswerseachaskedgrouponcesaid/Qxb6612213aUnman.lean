/-
  unmanaged. Seat b6612213a.
-/
import Derived.Test.Qxb6612213aAsks
namespace Go.Proofs.Qxb6612213a
open Go.RowKit Go.Maps

set_option maxHeartbeats 1000000 in
theorem quotaAsks_none (d cap : Nat) (a : Option Addr) (w : World) (hd : w.cell? ⟨d, 5, none⟩ = some (.slice a 0 cap)) :
    Calls Try.prog 14 #[.pointer (some ⟨d, 0, none⟩)] w fun e w' => AsksPost [] w e w' := by
  have hmm := @run_makeMap Try.prog
  have hdl : d < w.heap.size := World.block_lt_of_cell? w ⟨d, 5, none⟩ hd
  go_enter Try.func14, Try.ntmps14
  go_wp2
  refine wp_loop_rounds 1 ?_
  rw [rounds_succ]
  go_wp2
  go_ret
  exact ⟨_, [], rfl, World.ownsRow_nil _ _ _ _, rfl, by simp, (Below.refl _ _).alloc (Nat.le_refl _) _⟩

theorem quotaAsks_any (d : Nat) (v : Value) (Ms : List Mu) (w : World) (hl : Ms.length ≤ 1000000) (hok : ∀ m ∈ Ms, MuOk w m ∧ (m.rp.isSome = true → m.gp.isSome = true))
    (hd : w.cell? ⟨d, 5, none⟩ = some v) (h : MusIn w v Ms) :
    Calls Try.prog 14 #[.pointer (some ⟨d, 0, none⟩)] w fun e w' => AsksPost Ms w e w' := by
  obtain ⟨a, cap, rfl, h⟩ := h
  rcases h with rfl | ⟨g, rfl, hg, hc⟩
  · exact quotaAsks_none d cap a w hd
  · exact quotaAsks_some d g cap Ms w hl hok hd hg hc

/-- The answer 'quota management not applicable' for the group x. -/
def ansCells (x : Int) : List Value := [.string ⟨#[81, 85, 79, 84, 65, 95, 77, 65, 78, 65, 71, 69, 77, 69, 78, 84, 95, 78, 79, 84, 95, 65, 80, 80, 76, 73, 67, 65, 66, 76, 69]⟩, .int .u32 x, .pointer none, .pointer none]
def ansRow (l : List Int) : List Value := l.flatMap ansCells
theorem ansRow_snoc (L : List Int) (x : Int) : ansRow (L ++ [x]) = ansRow L ++ ansCells x := by simp [ansRow]
theorem ans_one (x : Int) : ∀ u ∈ ansCells x, u.oneCell' = true := by
  intro u hu
  simp [ansCells] at hu
  rcases hu with rfl | rfl | rfl <;> rfl
theorem ansRow_get (L : List Int) (k j : Nat) (hk : k < L.length) (hj : j < 4) : (ansRow L)[k * 4 + j]? = (ansCells L[k])[j]? := by
  induction L generalizing k with
  | nil => simp at hk
  | cons p L ih =>
    have e : ansRow (p :: L) = ansCells p ++ ansRow L := rfl
    have hl : (ansCells p).length = 4 := rfl
    rw [e]
    cases k with
    | zero => rw [List.getElem?_append_left (by rw [hl]; omega)]; simp
    | succ k =>
      rw [List.getElem?_append_right (by rw [hl]; omega), hl]
      have := ih k (by simpa using hk)
      rw [show (k + 1) * 4 + j - 4 = k * 4 + j by omega, this]
      simp

theorem info39 : (Try.prog.info? 39).map (fun i => (i.zero, i.size, i.bytes)) = some (some (.agg #[.string ⟨#[]⟩, .int .u32 0, .pointer none, .pointer none]), 4, 40) := by kernel_rfl

/-- WHAT unmanaged HANDS BACK: an answer for each group asked for, where it is first asked for; nil if there is none. -/
def AnsPost (Ms : List Mu) (w : World) (e : Ending) (w' : World) : Prop :=
  ∃ v, e = .returned v ∧ w'.ownsRow w.heap.size 39 4 v (firsts (asked Ms)).length (ansRow (firsts (asked Ms))) ∧ (firsts (asked Ms) = [] → v = .slice none 0 0) ∧ Below w.heap.size w w'

/-- unmanaged between two rounds: k answers are there. -/
structure AnsInv (w wr : World) (G : List Int) (k : Nat) (v : Value) : Prop where
  row : wr.ownsRow w.heap.size 39 4 v k (ansRow (G.take k))
  nil : k = 0 → v = .slice none 0 0
  below : Below w.heap.size w wr

theorem AnsInv.step {w wr w3 : World} {G : List Int} {k : Nat} {v v' : Value} {o o2 : Obj} (h : AnsInv w wr G k v) (hk : k < G.length)
    (hg3 : ((wr.alloc o).alloc o2).grownBy w3 v.ownBlock) (hown3 : w3.ownsRow w.heap.size 39 4 v' (k + 1) (ansRow (G.take k) ++ ansCells G[k])) : AnsInv w w3 G (k + 1) v' := by
  have z1 := (World.grownBy_alloc wr o none).size
  have z2 := (World.grownBy_alloc (wr.alloc o) o2 none).size
  have hb := h.below.size
  have b2 := (h.below.alloc hb o).alloc (Nat.le_trans hb z1) o2
  refine ⟨by rw [List.take_succ_eq_append_getElem hk, ansRow_snoc]; exact hown3, fun e => by omega, b2.grown hg3 b2.size (fun j hj => (h.row.lt j hj).1)⟩

theorem news2 (wr : World) (A : Obj) (cs : Array Value) (t : TypeId) : ∀ j u, cs.toList[j]? = some u → ((wr.alloc A).alloc (.cells cs t)).cell? ((⟨wr.heap.size + 1, 0, none⟩ : Addr).add j) = some u :=
  World.news_of_block (w := (wr.alloc A).alloc (.cells cs t)) (B := wr.heap.size + 1) (cs := cs) (t := t) (fr := (0, 0)) (by
    have h := heap_alloc_new (wr.alloc A) (.cells cs t)
    have e : (wr.alloc A).heap.size = wr.heap.size + 1 := by simp
    rw [e] at h
    exact h)

set_option maxHeartbeats 1000000 in
theorem unmanaged_any (d : Nat) (v : Value) (Ms : List Mu) (w : World) (hl : Ms.length ≤ 1000000) (hok : ∀ m ∈ Ms, MuOk w m ∧ (m.rp.isSome = true → m.gp.isSome = true))
    (hd : w.cell? ⟨d, 5, none⟩ = some v) (h : MusIn w v Ms) :
    Calls Try.prog 13 #[.pointer (some ⟨d, 0, none⟩)] w fun e w' => AnsPost Ms w e w' := by
  have hq := quotaAsks_any d v Ms w hl hok hd h
  have hal : (asked Ms).length ≤ Ms.length := List.length_filterMap_le _ _
  have hfl := firsts_length_le (asked Ms)
  clear hok hd h
  obtain ⟨i0, hi, hz0, hz1, hz2⟩ := info_parts info39
  go_enter Try.func13, Try.ntmps13
  go_wp2_with fail
  refine hq.mono ?_
  rintro e w1 ⟨u, As, he, hr, hG, hA, hb1⟩
  have hm := musIn_own hr
  have hlen : As.length = (firsts (asked Ms)).length := by rw [← hG]; simp
  have HG : Hid (As.map (·.g) = firsts (asked Ms)) := hG
  generalize hGe : firsts (asked Ms) = G at *
  have HGe : Hid (firsts (asked Ms) = G) := hGe
  clear hGe hG
  have hA1 : ∀ m ∈ As, m.gp.isSome = true ∧ MuOk w1 m := fun m hm => ⟨(hA m hm).1, (hA m hm).2.below hb1⟩
  clear hA hr hq
  obtain ⟨a, cap, rfl, hm⟩ := hm
  subst he
  rcases hm with hm | ⟨g, rfl, hg, hc⟩
  · subst hm
    have HL : Hid (G = []) := List.length_eq_zero_iff.1 hlen.symm
    clear hlen hA1 hfl
    go_wp2
    refine wp_loop_rounds 1 ?_
    rw [rounds_succ]
    go_wp2
    go_ret
    refine ⟨_, rfl, ?_, fun _ => rfl, hb1⟩
    rw [HGe.out, HL.out]
    exact World.ownsRow_nil _ _ _ _
  · have HA : Hid (∀ m ∈ As, m.gp.isSome = true ∧ MuOk w1 m) := hA1
    have hGl : As.length ≤ 1000000 := by omega
    have HLn : Hid (As.length = G.length) := hlen
    clear hA1 hlen hfl
    go_wp2
    go_loopw [3, 9] (fun v i wr => ∃ k : Nat, k ≤ As.length ∧ i = .int .i64 k ∧ AnsInv w1 wr G k v) (fun _ i _ => As.length - (intOf i).toNat)
    case atStart => exact ⟨0, Nat.zero_le _, rfl, World.ownsRow_nil _ _ _ _, fun _ => rfl, Below.refl _ _⟩
    case round =>
      obtain ⟨k, hk, rfl, hinv⟩ := hrel
      by_cases hlt : k < As.length
      · obtain ⟨c0, c1, c2⟩ := hc k hlt
        have hnx := hinv.below
        have hc0 := (hnx.cell (p := ⟨g, k * 3, none⟩) hg).trans c0
        have hc1 := (hnx.cell (p := ⟨g, k * 3 + 1, none⟩) hg).trans c1
        have hc2 := (hnx.cell (p := ⟨g, k * 3 + 2, none⟩) hg).trans c2
        obtain ⟨hsm, hmu⟩ := HA.out As[k] (List.getElem_mem hlt)
        have hkG : k < G.length := by rw [← HLn.out]; exact hlt
        have HE : Hid (As[k].g = G[k]) := by
          have e : (As.map (·.g))[k]? = G[k]? := by rw [HG.out]
          rw [List.getElem?_map, List.getElem?_eq_getElem hlt, List.getElem?_eq_getElem hkG] at e
          show As[k].g = G[k]
          simpa using e
        generalize As[k] = m at *
        clear hc c0 c1 c2
        obtain ⟨gp, gv, rp⟩ := m
        rcases gp with _ | ⟨gb, go⟩
        · exact absurd hsm (by simp)
        obtain ⟨hgb, hgc, hgw⟩ := hmu gb go rfl
        have hgc' := (hnx.cell (p := ⟨gb, go, none⟩) hgb).trans hgc
        have hgs : gb < wr.heap.size := Nat.lt_of_lt_of_le hgb hnx.size
        have hwz := hnx.size
        clear hsm hmu hgc
        rcases rp with _ | ⟨rb, ro⟩
        all_goals
          simp only [ptr] at hc0 hc1
          go_wp2_with (at_builtin; refine wpList_append_own _ rfl (.tmp 13) (.tmp 19) 28 rfl w1.heap.size 39 i0 _ 4 40 Try.underlying28 hi hz0 hz1 hz2 rfl (by decide) _ k (ansRow (G.take k)) rfl ((hinv.row.alloc _).alloc _) ⟨wr.heap.size + 1, 0, none⟩ 1 1 (ansCells gv) rfl rfl (news2 _ _ _ _) (ans_one _) (by unfold maxLen; omega) (by omega) (by simp; omega) ?_; intro v' w3 hown3 hgrow3 _)
          have hfin := hinv.step hkG hgrow3 (by rw [← HE.out]; exact hown3)
          go_wp2
          go_roundw
          case rel => exact ⟨k + 1, by omega, by go_num, hfin⟩
          case measure => simp [intOf]; omega
      · obtain rfl : k = As.length := by omega
        clear hc
        go_wp2
        go_ret
        have hrow := hinv.row
        have hn := hinv.nil
        rw [HLn.out, List.take_length] at hrow
        refine ⟨_, rfl, ?_, fun e => hn ?_, hb1.trans (hinv.below.mono hb1.size)⟩
        · rw [HGe.out]
          exact ownsRow_low hrow hb1.size
        · rw [HGe.out] at e
          rw [HLn.out, e]
          rfl

/-- ZZunmanaged: the same. -/
theorem zzunmanaged_any (d : Nat) (v : Value) (Ms : List Mu) (w : World) (hl : Ms.length ≤ 1000000) (hok : ∀ m ∈ Ms, MuOk w m ∧ (m.rp.isSome = true → m.gp.isSome = true))
    (hd : w.cell? ⟨d, 5, none⟩ = some v) (h : MusIn w v Ms) :
    Calls Try.prog 6 #[.pointer (some ⟨d, 0, none⟩)] w fun e w' => AnsPost Ms w e w' := by
  have hq := unmanaged_any d v Ms w hl hok hd h
  clear hok hd h
  go_enter Try.func6, Try.ntmps6
  go_wp2_with fail
  refine hq.mono ?_
  rintro e w1 ⟨u, rfl, hr⟩
  go_wp2
  go_ret
  exact ⟨_, rfl, hr⟩

end Go.Proofs.Qxb6612213a
