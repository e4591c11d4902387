/-
  A MAP THAT THE CALL ITSELF HAS MADE, AS A FUNCTION FROM KEYS TO VALUES. Over any program. ('World.ownsMap' with each element read as a token that is the value itself.)
-/
import Derived.Maps.OwnSet
import Derived.OwnWalk
namespace Go.Proofs.Qxb6612213a
open Go.RowKit Go.Maps

/-- Each element reads as itself. -/
def valElem (v : Value) : Option (DataW Value × List MemPlace) := some (.held v, [])

/-- BLOCK b IS A MAP OF AT MOST n ENTRIES; what it holds at the key kl is 'M kl' (z: the element type's zero value, where there is none). -/
def MapFn (w : World) (P : Program) (k b n : Nat) (z : Value) (M : Lit → Value) : Prop :=
  ∃ D : DataW Value, w.ownsMap P k valElem b n D ∧ ∀ kl, D.atKey kl (.held z) = .held (M kl)

variable {P : Program} {w : World} {k b n : Nat} {z : Value} {M : Lit → Value}

theorem mapFn_made (w : World) (P : Program) (k : Nat) (z : Value) : MapFn (w.alloc (.map #[] 0)) P k w.heap.size 0 z (fun _ => z) :=
  ⟨_, World.ownsMap_made w P k valElem, fun _ => rfl⟩

theorem MapFn.lt (h : MapFn w P k b n z M) : b < w.heap.size := by obtain ⟨D, h1, _⟩ := h; exact h1.lt
theorem MapFn.mono (h : MapFn w P k b n z M) {n' : Nat} (hn : n ≤ n') : MapFn w P k b n' z M := by obtain ⟨D, h1, h2⟩ := h; exact ⟨D, h1.mono hn, h2⟩
theorem MapFn.kept {w' : World} {row : Option Nat} (h : MapFn w P k b n z M) (hg : w.grownBy w' row) (hne : some b ≠ row) : MapFn w' P k b n z M := by
  obtain ⟨D, h1, h2⟩ := h; exact ⟨D, h1.kept hg hne, h2⟩
theorem MapFn.alloc (h : MapFn w P k b n z M) (o : Obj) : MapFn (w.alloc o) P k b n z M := h.kept (World.grownBy_alloc w o none) (by simp)
theorem MapFn.drew (h : MapFn w P k b n z M) : MapFn w.drew P k b n z M := h
theorem MapFn.of_block {w' : World} (h : MapFn w P k b n z M) (hb : w'.heap[b]? = w.heap[b]?) : MapFn w' P k b n z M := by
  obtain ⟨D, ⟨es, clock, h1, h3⟩, h2⟩ := h
  exact ⟨D, ⟨es, clock, hb.trans h1, h3⟩, h2⟩

/-- 'm[k]'. -/
theorem MapFn.look (h : MapFn w P k b n z M) (K : Keyed P k) {t e : TypeId} (ht : P.underlying t = some (.map k e)) (hz : ∀ w, (zeroValue e).run P w = .ok z w) {key : Value} {kl : Lit} (hkey : keyOf P k key = some kl) :
    (Instr.lookup t (.map (some b)) key false).run P w = .ok (M kl) w := by
  obtain ⟨D, h1, h2⟩ := h
  obtain ⟨v, ps, hrun, hv⟩ := h1.lookup K ht (hz w) (zd := .held z) (zp := []) rfl hkey
  rw [hrun]
  have := h2 kl
  simp only [valElem, Option.some.injEq, Prod.mk.injEq] at hv
  rw [← hv.1] at this
  simp only [DataW.held.injEq] at this
  rw [this]

/-- The value that an element's token is. -/
def heldOf (z : Value) : DataW Value → Value
  | .held u => u
  | _ => z

/-- 'm[k] = v'. -/
theorem MapFn.store (h : MapFn w P k b n z M) (K : Keyed P k) {t e : TypeId} (ht : P.underlying t = some (.map k e)) (hn : n < maxLen) {key : Value} {kl : Lit} (hkey : keyOf P k key = some kl) (v : Value) :
    ∃ w', (Instr.mapUpdate t (.map (some b)) key v).run P w = .ok () w' ∧ w.grownBy w' (some b) ∧ ∃ M', MapFn w' P k b (n + 1) z M' ∧ M' kl = v ∧ ∀ x, x ≠ kl → M' x = M x := by
  obtain ⟨D, h1, h2⟩ := h
  obtain ⟨w', hrun, h3, h4⟩ := h1.update K ht hn hkey (val := v) (d := .held v) (ps := []) rfl
  have same : (D.put kl (.held v)).atKey kl (.held z) = .held v := atKey_put_same h1.isMap (K.key hkey) _ _
  have other : ∀ x, x ≠ kl → (D.put kl (.held v)).atKey x (.held z) = .held (M x) := fun x hx => by rw [atKey_put_other hx, h2 x]
  refine ⟨w', hrun, h4, fun x => heldOf z ((D.put kl (.held v)).atKey x (.held z)), ⟨_, h3, fun x => ?_⟩, ?_, fun x hx => ?_⟩
  · show _ = DataW.held (heldOf z _)
    by_cases hx : x = kl
    · rw [hx, same]
      rfl
    · rw [other x hx]
      rfl
  · show heldOf z _ = v
    rw [same]
    rfl
  · show heldOf z _ = M x
    rw [other x hx]
    rfl

end Go.Proofs.Qxb6612213a
