/-
  quotaAsks and unmanaged. Seat b6612213a.
-/
import Derived.Test.Qxb6612213aProg
import Derived.Test.Qxb6612213aMapFn
import Derived.Test.Qxb6612213aPlain
import Derived.Maps.AppendAt
import Derived.Deep.AppendLies
import Derived.WalkKit
import Derived.ProofKit
import Derived.WalkLawsBesides
import Derived.WalkSpells
import Derived.Below
import Derived.KernelRfl
namespace Go.Proofs.Qxb6612213a
open Go.RowKit Go.Maps

/-- A pointer that is nil, or leads to a block and an offset. -/
def ptr : Option (Nat × Nat) → Value
  | none => .pointer none
  | some (b, o) => .pointer (some ⟨b, o, none⟩)

/-- An entry of a request: where its rating group lies and what it is, where its requested unit lies. -/
structure Mu where
  gp : Option (Nat × Nat)
  g : Int
  rp : Option (Nat × Nat)

def muCells (m : Mu) : List Value := [ptr m.gp, ptr m.rp, .slice none 0 0]
def muRow (l : List Mu) : List Value := l.flatMap muCells

/-- Its rating group, if it has one, is a number in memory. -/
def MuOk (w : World) (m : Mu) : Prop := ∀ b o, m.gp = some (b, o) → b < w.heap.size ∧ w.cell? ⟨b, o, none⟩ = some (.int .u32 m.g) ∧ (Lit.int .u32 m.g).wf = true

theorem MuOk.below {w w' : World} {m : Mu} (h : MuOk w m) (hb : Below w.heap.size w w') : MuOk w' m := fun b o e => by
  obtain ⟨h1, h2, h3⟩ := h b o e
  exact ⟨Nat.lt_of_lt_of_le h1 hb.size, (hb.cell (p := ⟨b, o, none⟩) h1).trans h2, h3⟩

/-- The rating groups that are asked for, in order. -/
def asked (l : List Mu) : List Int := l.filterMap fun m => if m.rp.isSome then some m.g else none
theorem asked_snoc_none {l : List Mu} {m : Mu} (h : m.rp = none) : asked (l ++ [m]) = asked l := by simp [asked, h]
theorem asked_snoc_some {l : List Mu} {m : Mu} (h : m.rp.isSome = true) : asked (l ++ [m]) = asked l ++ [m.g] := by simp [asked, h]

theorem muRow_length (L : List Mu) : (muRow L).length = L.length * 3 := by
  induction L with
  | nil => rfl
  | cons p L ih => simp [muRow, muCells] at ih ⊢; omega
theorem muRow_snoc (L : List Mu) (m : Mu) : muRow (L ++ [m]) = muRow L ++ muCells m := by simp [muRow]
theorem ptr_one (p : Option (Nat × Nat)) : (ptr p).oneCell' = true := by
  rcases p with _ | ⟨b, o⟩ <;> rfl
theorem mu_one (m : Mu) : ∀ u ∈ muCells m, u.oneCell' = true := by
  intro u hu
  simp [muCells] at hu
  rcases hu with rfl | rfl | rfl
  · exact ptr_one _
  · exact ptr_one _
  · rfl
theorem muRow_get (L : List Mu) (k j : Nat) (hk : k < L.length) (hj : j < 3) : (muRow L)[k * 3 + j]? = (muCells L[k])[j]? := by
  induction L generalizing k with
  | nil => simp at hk
  | cons p L ih =>
    have e : muRow (p :: L) = muCells p ++ muRow L := rfl
    have hl : (muCells p).length = 3 := rfl
    rw [e]
    cases k with
    | zero => rw [List.getElem?_append_left (by rw [hl]; omega)]; simp
    | succ k =>
      rw [List.getElem?_append_right (by rw [hl]; omega), hl]
      have := ih k (by simpa using hk)
      rw [show (k + 1) * 3 + j - 3 = k * 3 + j by omega, this]
      simp

/-- THE ENTRIES L LIE AT THE SLICE v, at a block's head. -/
def MusIn (w : World) (v : Value) (L : List Mu) : Prop :=
  ∃ a cap, v = .slice a L.length cap ∧ (L = [] ∨ ∃ g, a = some ⟨g, 0, none⟩ ∧ g < w.heap.size ∧
    ∀ i (h : i < L.length), w.cell? ⟨g, i * 3, none⟩ = some (ptr L[i].gp) ∧ w.cell? ⟨g, i * 3 + 1, none⟩ = some (ptr L[i].rp) ∧ w.cell? ⟨g, i * 3 + 2, none⟩ = some (.slice none 0 0))

theorem musIn_own {w : World} {base : Nat} {v : Value} {L : List Mu} (h : w.ownsRow base 51 3 v L.length (muRow L)) : MusIn w v L := by
  rcases h.2 with ⟨rfl, h0⟩ | ⟨g, cap, cur, rfl, _⟩
  · exact ⟨none, 0, by rw [h0], Or.inl (List.length_eq_zero_iff.1 h0)⟩
  · refine ⟨_, cap, rfl, Or.inr ⟨g, rfl, (h.lt g rfl).2, fun i hi => ?_⟩⟩
    have key : ∀ j, j < 3 → w.cell? ⟨g, i * 3 + j, none⟩ = (muCells L[i])[j]? := fun j hj => by
      have hl : (muCells L[i]).length = 3 := rfl
      have hu := muRow_get L i j hi hj
      rw [List.getElem?_eq_getElem (i := j) (by omega)] at hu ⊢
      have := h.cells (g := g) rfl (i * 3 + j) _ hu
      rwa [Addr.add_lit, Nat.zero_add] at this
    exact ⟨key 0 (by omega), key 1 (by omega), key 2 (by omega)⟩

theorem MusIn.below {w w' : World} {v : Value} {L : List Mu} (h : MusIn w v L) (hb : Below w.heap.size w w') : MusIn w' v L := by
  obtain ⟨a, cap, hv, h⟩ := h
  refine ⟨a, cap, hv, ?_⟩
  rcases h with h | ⟨g, ha, hg, hc⟩
  · exact Or.inl h
  · refine Or.inr ⟨g, ha, Nat.lt_of_lt_of_le hg hb.size, fun i hi => ?_⟩
    obtain ⟨c0, c1, c2⟩ := hc i hi
    exact ⟨(hb.cell (p := ⟨g, _, none⟩) hg).trans c0, (hb.cell (p := ⟨g, _, none⟩) hg).trans c1, (hb.cell (p := ⟨g, _, none⟩) hg).trans c2⟩

theorem law35 : Keyed Try.prog 35 := int_keyed Try.underlying35
theorem info51 : (Try.prog.info? 51).map (fun i => (i.zero, i.size, i.bytes)) = some (some (.agg #[.pointer none, .pointer none, .slice none 0 0]), 3, 40) := by kernel_rfl

/-- The set of the groups that were asked for. -/
def Seen (M : Lit → Value) (l : List Int) : Prop := ∀ x, M (.int .u32 x) = .bool (decide (x ∈ l))

/-- WHAT quotaAsks HANDS BACK: for each group asked for the first entry that asks. -/
def AsksPost (Ms : List Mu) (w : World) (e : Ending) (w' : World) : Prop :=
  ∃ v As, e = .returned v ∧ w'.ownsRow w.heap.size 51 3 v As.length (muRow As) ∧ As.map (·.g) = firsts (asked Ms) ∧ (∀ m ∈ As, m.gp.isSome = true ∧ MuOk w m) ∧ Below w.heap.size w w'

/-- quotaAsks between two rounds: 'l': the entries seen. -/
structure AskInv (w wr : World) (l : List Mu) (n : Nat) (v : Value) : Prop where
  map : ∃ M, MapFn wr Try.prog 35 w.heap.size n (.bool false) M ∧ Seen M (asked l)
  asks : ∃ As, wr.ownsRow (w.heap.size + 1) 51 3 v As.length (muRow As) ∧ As.map (·.g) = firsts (asked l) ∧ (∀ m ∈ As, m.gp.isSome = true ∧ MuOk w m) ∧ As.length ≤ l.length
  below : Below w.heap.size w wr
  size : w.heap.size + 1 ≤ wr.heap.size

theorem askInv_start (w : World) : AskInv w (w.alloc (.map #[] 0)) [] 0 (.slice none 0 0) :=
  ⟨⟨_, mapFn_made w _ _ _, fun x => by simp [asked]⟩, ⟨[], World.ownsRow_nil _ _ _ _, rfl, by simp, Nat.le_refl _⟩, (Below.refl _ _).alloc (Nat.le_refl _) _, by simp⟩

/-- Nothing is asked. -/
theorem AskInv.skip {w wr : World} {l : List Mu} {n : Nat} {v : Value} {m : Mu} (h : AskInv w wr l n v) (o : Obj) (hm : m.rp = none) : AskInv w (wr.alloc o) (l ++ [m]) (n + 1) v := by
  obtain ⟨⟨M, hM, hS⟩, ⟨As, hr, hg, hA, hl⟩, hb, hs⟩ := h
  have e := asked_snoc_none (l := l) hm
  exact ⟨⟨M, (hM.alloc o).mono (Nat.le_succ _), by rw [e]; exact hS⟩, ⟨As, hr.alloc o, by rw [e]; exact hg, hA, by simp; omega⟩, hb.alloc hb.size o, by simp; omega⟩

/-- A group that was asked for before. -/
theorem AskInv.again {w wr : World} {l : List Mu} {n : Nat} {v : Value} {m : Mu} (h : AskInv w wr l n v) (o : Obj) (hm : m.rp.isSome = true) (hin : m.g ∈ asked l) : AskInv w (wr.alloc o) (l ++ [m]) (n + 1) v := by
  obtain ⟨⟨M, hM, hS⟩, ⟨As, hr, hg, hA, hl⟩, hb, hs⟩ := h
  have e := asked_snoc_some (l := l) hm
  refine ⟨⟨M, (hM.alloc o).mono (Nat.le_succ _), fun x => ?_⟩, ⟨As, hr.alloc o, by rw [e, firsts_old hin]; exact hg, hA, by simp; omega⟩, hb.alloc hb.size o, by simp; omega⟩
  rw [hS x, e]
  congr 2
  simp only [List.mem_append, List.mem_singleton, eq_iff_iff]
  exact ⟨Or.inl, fun h => h.elim id (fun h => h ▸ hin)⟩

/-- 'asked[g]'. -/
theorem AskInv.look {w wr : World} {l : List Mu} {n : Nat} {v : Value} (h : AskInv w wr l n v) {x : Int} (hw : (Lit.int .u32 x).wf = true) (o : Obj) :
    (Instr.lookup 62 (.map (some w.heap.size)) (.int .u32 x) false).run Try.prog (wr.alloc o) = .ok (.bool (decide (x ∈ asked l))) (wr.alloc o) := by
  obtain ⟨M, hM, hS⟩ := h.map
  rw [(hM.alloc o).look law35 Try.underlying62 Try.zeroValue4 (keyOf_int_mk Try.underlying35 hw), hS x]

/-- 'asked[g] = true'. -/
theorem AskInv.store {w wr : World} {l : List Mu} {n : Nat} {v : Value} (h : AskInv w wr l n v) (hn : n < maxLen) {x : Int} (hw : (Lit.int .u32 x).wf = true) (o : Obj) :
    ∃ w2, (Instr.mapUpdate 62 (.map (some w.heap.size)) (.int .u32 x) (.bool true)).run Try.prog (wr.alloc o) = .ok () w2 ∧ (wr.alloc o).grownBy w2 (some w.heap.size) ∧
      ∃ M, MapFn w2 Try.prog 35 w.heap.size (n + 1) (.bool false) M ∧ Seen M (asked l ++ [x]) := by
  obtain ⟨M, hM, hS⟩ := h.map
  obtain ⟨w2, hrun, hg, M', hM', h1, h2⟩ := (hM.alloc o).store law35 Try.underlying62 hn (keyOf_int_mk Try.underlying35 hw) (.bool true)
  refine ⟨w2, hrun, hg, M', hM', fun y => ?_⟩
  by_cases e : y = x
  · subst e
    rw [h1]
    simp
  · rw [h2 _ (by simpa using e), hS y]
    congr 2
    simp [e]

/-- A group that is new: behind the append. -/
theorem AskInv.add {w wr w2 w3 : World} {l : List Mu} {n : Nat} {v v' : Value} {m : Mu} {o o2 : Obj} {As : List Mu} (hb : Below w.heap.size w wr) (hs : w.heap.size + 1 ≤ wr.heap.size)
    (hr : wr.ownsRow (w.heap.size + 1) 51 3 v As.length (muRow As)) (hg : As.map (·.g) = firsts (asked l)) (hA : ∀ m ∈ As, m.gp.isSome = true ∧ MuOk w m) (hl : As.length ≤ l.length)
    (hrp : m.rp.isSome = true) (hgp : m.gp.isSome = true) (hmu : MuOk w m) (hnew : ¬ m.g ∈ asked l)
    (hg2 : (wr.alloc o).grownBy w2 (some w.heap.size)) (hM : ∃ M, MapFn w2 Try.prog 35 w.heap.size (n + 1) (.bool false) M ∧ Seen M (asked l ++ [m.g]))
    (hg3 : (w2.alloc o2).grownBy w3 v.ownBlock) (hown3 : w3.ownsRow (w.heap.size + 1) 51 3 v' (As.length + 1) (muRow As ++ muCells m)) : AskInv w w3 (l ++ [m]) (n + 1) v' := by
  have e := asked_snoc_some (l := l) hrp
  obtain ⟨M, hM, hS⟩ := hM
  have z1 := (World.grownBy_alloc wr o none).size
  have z2 := hg2.size
  have z3 := (World.grownBy_alloc w2 o2 none).size
  have z4 := hg3.size
  refine ⟨⟨M, (hM.alloc o2).kept hg3 (fun h => ?_), by rw [e]; exact hS⟩, ⟨As ++ [m], ?_, ?_, ?_, by simp; omega⟩, ?_, by omega⟩
  · have := (hr.lt _ h.symm).1
    omega
  · rw [muRow_snoc]
    simpa using hown3
  · rw [e, firsts_new hnew, List.map_append, hg]
    rfl
  · intro m' hm'
    rcases List.mem_append.1 hm' with h | h
    · exact hA m' h
    · simp at h; subst h; exact ⟨hgp, hmu⟩
  · have b2 := (hb.alloc hb.size o).grown hg2 (by omega) (fun j hj => by cases hj; exact Nat.le_refl _)
    exact (b2.alloc b2.size o2).grown hg3 (by omega) (fun j hj => by have := (hr.lt j hj).1; omega)

theorem ownsRow_low {w : World} {base base' n : Nat} {e : TypeId} {size : Nat} {v : Value} {xs : List Value} (h : w.ownsRow base e size v n xs) (hb : base' ≤ base) : w.ownsRow base' e size v n xs := by
  refine ⟨h.1, ?_⟩
  rcases h.2 with h | ⟨g, cap, cur, e1, hg, r⟩
  · exact Or.inl h
  · exact Or.inr ⟨g, cap, cur, e1, Nat.le_trans hb hg, r⟩
theorem cells3 {W : World} {n : Nat} {x y z : Value} {t : TypeId} (h : W.heap[n]? = some (.cells #[x, y, z] t (0, 0))) : W.cell? ⟨n, 0, none⟩ = some x ∧ W.cell? ⟨n, 1, none⟩ = some y ∧ W.cell? ⟨n, 2, none⟩ = some z :=
  ⟨by rw [cell_of_row W n 0 _ t (0, 0) h]; rfl, by rw [cell_of_row W n 1 _ t (0, 0) h]; rfl, by rw [cell_of_row W n 2 _ t (0, 0) h]; rfl⟩
theorem news1 (w : World) (cs : Array Value) (t : TypeId) : ∀ j u, cs.toList[j]? = some u → (w.alloc (.cells cs t)).cell? ((⟨w.heap.size, 0, none⟩ : Addr).add j) = some u :=
  World.news_of_block (heap_alloc_new w _)

set_option maxHeartbeats 1000000 in
theorem quotaAsks_some (d g cap : Nat) (Ms : List Mu) (w : World) (hl : Ms.length ≤ 1000000) (hok : ∀ m ∈ Ms, MuOk w m ∧ (m.rp.isSome = true → m.gp.isSome = true))
    (hd : w.cell? ⟨d, 5, none⟩ = some (.slice (some ⟨g, 0, none⟩) Ms.length cap)) (hg : g < w.heap.size)
    (hc : ∀ i (h : i < Ms.length), w.cell? ⟨g, i * 3, none⟩ = some (ptr Ms[i].gp) ∧ w.cell? ⟨g, i * 3 + 1, none⟩ = some (ptr Ms[i].rp) ∧ w.cell? ⟨g, i * 3 + 2, none⟩ = some (.slice none 0 0)) :
    Calls Try.prog 14 #[.pointer (some ⟨d, 0, none⟩)] w fun e w' => AsksPost Ms w e w' := by
  have hmm := @run_makeMap Try.prog
  obtain ⟨i0, hi, hz0, hz1, hz2⟩ := info_parts info51
  have HOK : Hid (∀ m ∈ Ms, MuOk w m ∧ (m.rp.isSome = true → m.gp.isSome = true)) := hok
  clear hok
  have hdl : d < w.heap.size := World.block_lt_of_cell? w ⟨d, 5, none⟩ hd
  go_enter Try.func14, Try.ntmps14
  go_wp2
  go_loopw [3, 13] (fun v i wr => ∃ k : Nat, k ≤ Ms.length ∧ i = .int .i64 k ∧ AskInv w wr (Ms.take k) k v) (fun _ i _ => Ms.length - (intOf i).toNat)
  case atStart => exact ⟨0, Nat.zero_le _, rfl, askInv_start w⟩
  case round =>
    obtain ⟨k, hk, rfl, hinv⟩ := hrel
    by_cases hlt : k < Ms.length
    · obtain ⟨c0, c1, c2⟩ := hc k hlt
      have hnx := hinv.below
      have hc0 := (hnx.cell (p := ⟨g, k * 3, none⟩) hg).trans c0
      have hc1 := (hnx.cell (p := ⟨g, k * 3 + 1, none⟩) hg).trans c1
      have hc2 := (hnx.cell (p := ⟨g, k * 3 + 2, none⟩) hg).trans c2
      obtain ⟨hmu, hpr⟩ := HOK.out Ms[k] (List.getElem_mem hlt)
      have htk : Ms.take (k + 1) = Ms.take k ++ [Ms[k]] := List.take_succ_eq_append_getElem hlt
      generalize Ms[k] = m at *
      clear hc c0 c1 c2 HOK
      obtain ⟨gp, gv, rp⟩ := m
      rcases rp with _ | ⟨rb, ro⟩
      · rcases gp with _ | ⟨gb, go⟩
        · have hfin : AskInv w (wr.alloc (.cells #[.pointer none, .pointer none, .slice none 0 0] 51)) (Ms.take (k + 1)) (k + 1) u3 := by rw [htk]; exact hinv.skip (m := ⟨none, gv, none⟩) _ rfl
          clear htk hmu hpr
          simp only [ptr] at hc0 hc1
          go_wp2
          go_roundw
          case rel => exact ⟨k + 1, by omega, by go_num, hfin⟩
          case measure => simp [intOf]; omega
        · have hfin : AskInv w (wr.alloc (.cells #[.pointer (some ⟨gb, go, none⟩), .pointer none, .slice none 0 0] 51)) (Ms.take (k + 1)) (k + 1) u3 := by rw [htk]; exact hinv.skip (m := ⟨some (gb, go), gv, none⟩) _ rfl
          clear htk hmu hpr
          simp only [ptr] at hc0 hc1
          go_wp2
          go_roundw
          case rel => exact ⟨k + 1, by omega, by go_num, hfin⟩
          case measure => simp [intOf]; omega
      · rcases gp with _ | ⟨gb, go⟩
        · exact absurd (hpr rfl) (by simp)
        · obtain ⟨hgb, hgc, hgw⟩ := hmu gb go rfl
          have hgc' := (hnx.cell (p := ⟨gb, go, none⟩) hgb).trans hgc
          have hgs : gb < wr.heap.size := Nat.lt_of_lt_of_le hgb hnx.size
          simp only [ptr] at hc0 hc1
          have hlk := hinv.look hgw
          by_cases hin : gv ∈ asked (Ms.take k)
          · have hfin : AskInv w (wr.alloc (.cells #[.pointer (some ⟨gb, go, none⟩), .pointer (some ⟨rb, ro, none⟩), .slice none 0 0] 51)) (Ms.take (k + 1)) (k + 1) u3 := by rw [htk]; exact hinv.again (m := ⟨some (gb, go), gv, some (rb, ro)⟩) _ rfl hin
            rw [decide_eq_true hin] at hlk
            clear htk hmu hpr hin
            go_wp2
            go_roundw
            case rel => exact ⟨k + 1, by omega, by go_num, hfin⟩
            case measure => simp [intOf]; omega
          · rw [decide_eq_false hin] at hlk
            obtain ⟨w2, hst, hg2, hM2⟩ := hinv.store (by unfold maxLen; omega) hgw (.cells #[.pointer (some ⟨gb, go, none⟩), .pointer (some ⟨rb, ro, none⟩), .slice none 0 0] 51)
            obtain ⟨As, hr, hgs', hA, hAl⟩ := hinv.asks
            have hs := hinv.size
            have hz : wr.heap.size < w2.heap.size := by have := hg2.size; simp at this; omega
            obtain ⟨q0, q1, q2⟩ := cells3 ((hg2.block wr.heap.size (by simp) (by simp; omega)).trans (heap_alloc_new wr (.cells #[.pointer (some ⟨gb, go, none⟩), .pointer (some ⟨rb, ro, none⟩), .slice none 0 0] 51)))
            have hr2 : w2.ownsRow (w.heap.size + 1) 51 3 u3 As.length (muRow As) := (hr.alloc _).kept hg2 (Or.inr fun e => by have := (hr.lt _ e).1; omega)
            have htl : (Ms.take k).length ≤ k := List.length_take_le _ _
            have HF : Hid (As.map (·.g) = firsts (asked (Ms.take k))) := hgs'
            have HA : Hid (∀ m ∈ As, m.gp.isSome = true ∧ MuOk w m) := hA
            have HM : Hid (∃ M, MapFn w2 Try.prog 35 w.heap.size (k + 1) (.bool false) M ∧ Seen M (asked (Ms.take k) ++ [gv])) := hM2
            have HT : Hid (Ms.take (k + 1) = Ms.take k ++ [⟨some (gb, go), gv, some (rb, ro)⟩]) := htk
            clear hgs' hA hM2 hpr htk
            go_wp2_with (at_builtin; go_must (refine wpList_append_own _ rfl (.tmp 34) (.tmp 36) 44 rfl (w.heap.size + 1) 51 i0 _ 3 40 Try.underlying44 hi hz0 hz1 hz2 rfl (by decide) _ As.length (muRow As) rfl (hr2.alloc _) ⟨w2.heap.size, 0, none⟩ 1 1 (muCells ⟨some (gb, go), gv, some (rb, ro)⟩) rfl rfl (news1 _ _ _) (mu_one _) (by unfold maxLen; omega) (by omega) (by simp; omega) ?_); intro v' w3 hown3 hgrow3 _)
            have hfin := AskInv.add (m := ⟨some (gb, go), gv, some (rb, ro)⟩) hnx hs hr HF.out HA.out hAl rfl rfl hmu hin hg2 HM.out hgrow3 hown3
            rw [← HT.out] at hfin
            go_wp2
            go_roundw
            case rel => exact ⟨k + 1, by omega, by go_num, hfin⟩
            case measure => simp [intOf]; omega
    · obtain rfl : k = Ms.length := by omega
      clear hc HOK
      go_wp2
      go_ret
      obtain ⟨As, hr, hg', hA, hAl⟩ := hinv.asks
      exact ⟨_, As, rfl, ownsRow_low hr (Nat.le_succ _), by simpa using hg', hA, hinv.below⟩

end Go.Proofs.Qxb6612213a
