/-
  postsAtOf's MAP: each key's slice owns a row of its own: the facts of the posts held there, in their order. Seat b6612211a.
-/
import Derived.Test.Qxb6612211aProg
import Derived.Test.Qxb6612211aMapFn
import Derived.Maps.AppendAt
import Derived.StringKeys
import Derived.KernelRfl
namespace Go.Proofs.Qxb6612211a
open Go.RowKit Go.Maps

/-- A post: the party where it is held, the person, the role's code. -/
structure Post where
  a : ByteArray
  f : ByteArray
  r : ByteArray

/-- A post's three cells. -/
def postCells (p : Post) : List Value := [.string p.a, .string p.f, .string p.r]
/-- The eight cells of the fact that postsAtOf makes of a post. -/
def factCells (p : Post) : List Value := [.string ⟨#[]⟩, .string p.f, .string p.a, .int .i64 0, .string p.r, .string ⟨#[]⟩, .int .i32 0, .int .i32 0]
/-- The posts held at s. -/
def grp (s : List UInt8) (L : List Post) : List Post := L.filter fun p => p.a.data.toList == s
def flat (L : List Post) : List Value := L.flatMap factCells

theorem flat_length (L : List Post) : (flat L).length = L.length * 8 := by
  induction L with
  | nil => rfl
  | cons p L ih => simp [flat, factCells] at ih ⊢; omega
theorem flat_snoc (L : List Post) (p : Post) : flat (L ++ [p]) = flat L ++ factCells p := by simp [flat]
theorem grp_same (L : List Post) (p : Post) : grp p.a.data.toList (L ++ [p]) = grp p.a.data.toList L ++ [p] := by simp [grp]
theorem grp_other {s : List UInt8} (L : List Post) (p : Post) (h : s ≠ p.a.data.toList) : grp s (L ++ [p]) = grp s L := by
  simp [grp, List.filter_cons]
  exact fun e => h e.symm
theorem grp_le (s : List UInt8) (L : List Post) : (grp s L).length ≤ L.length := List.length_filter_le _ _

theorem law9 : Keyed Try.prog 9 := string_keyed Try.underlying9

/-- BLOCK b IS THE MAP THAT postsAtOf HAS MADE OF THE POSTS L: its slices' rows lie from 'base' on, no two in one row. -/
def Groups (w : World) (base b n : Nat) (L : List Post) : Prop :=
  b < base ∧ base ≤ w.heap.size ∧ ∃ M, MapFn w Try.prog 9 b n (.slice none 0 0) M ∧ (∀ s, w.ownsRow base 59 8 (M (.string s)) (grp s L).length (flat (grp s L))) ∧
    ∀ s t, s ≠ t → (M (.string s)).ownBlock = none ∨ (M (.string s)).ownBlock ≠ (M (.string t)).ownBlock

theorem groups_made (w : World) : Groups (w.alloc (.map #[] 0)) (w.heap.size + 1) w.heap.size 0 [] :=
  ⟨Nat.lt_succ_self _, by simp, _, mapFn_made w _ _ _, fun _ => World.ownsRow_nil _ _ _ _, fun _ _ _ => Or.inl rfl⟩

theorem Groups.mono {w : World} {base b n n' : Nat} {L : List Post} (h : Groups w base b n L) (hn : n ≤ n') : Groups w base b n' L := by
  obtain ⟨h1, h2, M, hM, hr, ha⟩ := h
  exact ⟨h1, h2, M, hM.mono hn, hr, ha⟩

/-- New blocks, and writes below the rows beside the map, leave it. -/
theorem Groups.kept {w w' : World} {base b n : Nat} {L : List Post} (h : Groups w base b n L) (hs : w.heap.size ≤ w'.heap.size) (hb : ∀ i, b ≤ i → i < w.heap.size → w'.heap[i]? = w.heap[i]?) : Groups w' base b n L := by
  obtain ⟨h1, h2, M, hM, hr, ha⟩ := h
  refine ⟨h1, Nat.le_trans h2 hs, M, hM.of_block (hb b (Nat.le_refl _) hM.lt), fun s => ?_, ha⟩
  obtain ⟨hl, hv⟩ := hr s
  refine ⟨hl, ?_⟩
  rcases hv with hv | ⟨g, cap, cur, e1, hg, hh, rest⟩
  · exact Or.inl hv
  · exact Or.inr ⟨g, cap, cur, e1, hg, (hb g (by omega) (Array.getElem?_eq_some_iff.1 hh).1).trans hh, rest⟩

theorem Groups.alloc {w : World} {base b n : Nat} {L : List Post} (h : Groups w base b n L) (o : Obj) : Groups (w.alloc o) base b n L :=
  h.kept (by simp) fun i _ hi => heap_alloc_old w o i hi

/-- THE LOOK-UP, AND THE WAY BACK. -/
theorem Groups.look {w : World} {base b n : Nat} {L : List Post} (h : Groups w base b n L) (s : ByteArray) (hs : s.size ≤ maxLen) (hn : n < maxLen) :
    ∃ v, (∀ W : World, W.heap[b]? = w.heap[b]? → (Instr.lookup 30 (.map (some b)) (.string s) false).run Try.prog W = .ok v W) ∧
      w.ownsRow base 59 8 v (grp s.data.toList L).length (flat (grp s.data.toList L)) ∧
      ∀ (p : Post) (w1 : World) (v' : Value), p.a = s → w.grownBy w1 v.ownBlock → w1.ownsRow base 59 8 v' ((grp s.data.toList L).length + 1) (flat (grp s.data.toList L) ++ factCells p) →
        (v'.ownBlock = v.ownBlock ∨ ∃ g, v'.ownBlock = some g ∧ w.heap.size ≤ g) →
        ∃ w2, (Instr.mapUpdate 30 (.map (some b)) (.string s) v').run Try.prog w1 = .ok () w2 ∧ Groups w2 base b (n + 1) (L ++ [p]) ∧ w1.grownBy w2 (some b) := by
  obtain ⟨h1, h2, M, hM, hr, ha⟩ := h
  have hkey := WideMaps.keyOf_string_mk (P := Try.prog) Try.underlying9 hs
  have low : ∀ t, (M (.string t)).ownBlock ≠ some b := fun t e => by have := ((hr t).lt b e).1; omega
  refine ⟨M (.string s.data.toList), fun W hW => (hM.of_block hW).look law9 Try.underlying30 Try.zeroValue38 hkey, hr _, ?_⟩
  intro p w1 v' hp hg hown hloc
  subst hp
  have hM1 : MapFn w1 Try.prog 9 b n (.slice none 0 0) M := hM.kept hg (fun e => low _ e.symm)
  obtain ⟨w2, hrun, hg2, M', hM', hsame, hother⟩ := hM1.store law9 Try.underlying30 hn hkey v'
  refine ⟨w2, hrun, ⟨h1, Nat.le_trans h2 (Nat.le_trans hg.size hg2.size), M', hM', fun t => ?_, fun t u htu => ?_⟩, hg2⟩
  · by_cases ht : t = p.a.data.toList
    · subst ht
      rw [hsame, grp_same, flat_snoc, List.length_append]
      refine hown.kept hg2 ?_
      cases hv : v'.ownBlock with
      | none => exact Or.inl rfl
      | some g =>
        refine Or.inr fun e => ?_
        have := (hown.lt g hv).1
        simp at e
        omega
    · rw [hother _ (by simpa using ht), grp_other _ _ ht]
      refine ((hr t).kept hg (ha t _ ht)).kept hg2 (Or.inr (low t))
  · have new : ∀ t, t ≠ p.a.data.toList → (M (.string t)).ownBlock = none ∨ (M (.string t)).ownBlock ≠ v'.ownBlock := by
      intro t ht
      rcases hloc with e | ⟨g, e, hge⟩
      · rw [e]; exact ha t _ ht
      · cases hx : (M (.string t)).ownBlock with
        | none => exact Or.inl rfl
        | some gx =>
          refine Or.inr fun e' => ?_
          have := ((hr t).lt gx hx).2
          rw [e] at e'
          simp at e'
          omega
    by_cases ht : t = p.a.data.toList
    · subst ht
      rw [hsame, hother _ (by simpa using (Ne.symm htu))]
      rcases new u (Ne.symm htu) with e | e
      · cases hv : v'.ownBlock with
        | none => exact Or.inl rfl
        | some g => exact Or.inr (by rw [e]; simp)
      · exact Or.inr (Ne.symm e)
    · rw [hother _ (by simpa using ht)]
      by_cases hu : u = p.a.data.toList
      · subst hu
        rw [hsame]
        exact new t ht
      · rw [hother _ (by simpa using hu)]
        exact ha t u htu

end Go.Proofs.Qxb6612211a
