/-
  The entries, opened out of the row's reading. Seat b6612213a.
-/
import Derived.Test.Qxb6612213aFirst
import Derived.OpenShut
import Derived.ChangeOld
import Derived.ChangeSame
import Derived.Deep.Slices
import Derived.Deep.Fields
namespace Go.Proofs.Qxb6612213a
open Go.ChangeShapes Go.WideShapes Go.ChangeAt Go.RowKit

theorem own : ownKnob Try.prog.godebug = none := by kernel_rfl
theorem laidOut : laidOutB Try.prog = true := by kernel_rfl
theorem cells27 : Try.prog.cellsOf 27 = 2 := by kernel_rfl
theorem cells24 : Try.prog.cellsOf 24 = 1 := by kernel_rfl
theorem cells25 : Try.prog.cellsOf 25 = 1 := by kernel_rfl
theorem cells35 : Try.prog.cellsOf 35 = 1 := by kernel_rfl
theorem cells54 : Try.prog.cellsOf 54 = 5 := by kernel_rfl

theorem spot_none {w : World} {a : Addr} {v : Value} (h : w.cell? a = some v) : a = ⟨a.block, a.off, none⟩ := by
  obtain ⟨b, o, s⟩ := a
  cases s with
  | none => rfl
  | some x =>
    simp only [World.cell?] at h
    split at h <;> simp at h

section
variable {H : Type} {enc : TypeId × Value → H} {W : World} {base : Nat} {spare : Nat → Bool} {held : Bool}

/-- A pointer to a uint32 that is read. -/
theorem open_group {n : Nat} {cs : List Value} {y : DataW H × List MemPlace} (h : DataW.trod enc Try.prog W base spare held n 24 cs = some y) :
    ∃ (p : Option (Nat × Nat)) (x : Int), cs = [ptr p] ∧ ∀ b o, p = some (b, o) → b < W.heap.size ∧ W.cell? ⟨b, o, none⟩ = some (.int .u32 x) ∧ (Lit.int .u32 x).wf = true := by
  rcases DataW.trod_pointer Try.underlying24 h with ⟨rfl, _⟩ | ⟨a, cs', y', m, _, rfl, _, hc, hy⟩
  · exact ⟨none, 0, rfl, fun b o e => by cases e⟩
  · rw [cells35] at hc
    obtain ⟨x, rfl, _, hw⟩ := DataW.trod_int Try.underlying35 hy
    obtain ⟨_, _, hcell⟩ := World.cells?_some hc
    have h0 : W.cell? a = some (.int .u32 x) := by simpa [Addr.add] using hcell 0 (by omega)
    have e := spot_none h0
    refine ⟨some (a.block, a.off), x, by rw [e]; rfl, fun b o e' => ?_⟩
    simp only [Option.some.injEq, Prod.mk.injEq] at e'
    obtain ⟨rfl, rfl⟩ := e'
    rw [← e]
    exact ⟨World.block_lt_of_cell? W a h0, h0, hw⟩

/-- A pointer to the amounts that is read. -/
theorem open_unit {n : Nat} {cs : List Value} {y : DataW H × List MemPlace} (h : DataW.trod enc Try.prog W base spare held n 25 cs = some y) :
    ∃ (p : Option (Nat × Nat)) (t v1 v2 v3 v4 : Int), cs = [ptr p] ∧ ∀ b o, p = some (b, o) → b < W.heap.size ∧ W.cell? ⟨b, o, none⟩ = some (.int .u32 t) ∧ W.cell? ⟨b, o + 1, none⟩ = some (.int .u64 v1) ∧ W.cell? ⟨b, o + 2, none⟩ = some (.int .u64 v2) ∧ W.cell? ⟨b, o + 3, none⟩ = some (.int .u64 v3) ∧ W.cell? ⟨b, o + 4, none⟩ = some (.int .u64 v4) := by
  rcases Deep.open_ptr_fields Try.underlying25 Try.underlying54 (Deep.hone_of (by kernel_rfl)) (by kernel_rfl) (by decide) h with ⟨rfl, _⟩ | ⟨b, o, m, V, Y, rfl, _, _, hf⟩
  · exact ⟨none, 0, 0, 0, 0, 0, rfl, fun b o e => by cases e⟩
  · obtain ⟨c0, t0⟩ := hf 0 _ rfl
    obtain ⟨c1, t1⟩ := hf 1 _ rfl
    obtain ⟨c2, t2⟩ := hf 2 _ rfl
    obtain ⟨c3, t3⟩ := hf 3 _ rfl
    obtain ⟨c4, t4⟩ := hf 4 _ rfl
    obtain ⟨x0, e0, _, _⟩ := DataW.trod_int Try.underlying35 t0
    obtain ⟨x1, e1, _, _⟩ := DataW.trod_int Try.underlying52 t1
    obtain ⟨x2, e2, _, _⟩ := DataW.trod_int Try.underlying52 t2
    obtain ⟨x3, e3, _, _⟩ := DataW.trod_int Try.underlying52 t3
    obtain ⟨x4, e4, _, _⟩ := DataW.trod_int Try.underlying52 t4
    simp only [List.cons.injEq, and_true] at e0 e1 e2 e3 e4
    rw [e0] at c0
    rw [e1] at c1
    rw [e2] at c2
    rw [e3] at c3
    rw [e4] at c4
    refine ⟨some (b, o), x0, x1, x2, x3, x4, rfl, fun b' o' e => ?_⟩
    simp only [Option.some.injEq, Prod.mk.injEq] at e
    obtain ⟨rfl, rfl⟩ := e
    exact ⟨World.block_lt_of_cell? W ⟨b, o, none⟩ c0, c0, c1, c2, c3, c4⟩

theorem open_ent {n : Nat} {cs : List Value} {y : DataW H × List MemPlace} (h : DataW.trod enc Try.prog W base spare held n 27 cs = some y) : ∃ e : Ent, cs = [ptr e.gp, ptr e.rp] ∧ EntOk W e := by
  obtain ⟨y0, y1, m, _, hl, h0, h1⟩ := trod_struct2 Try.underlying27 h
  rw [cells27] at hl
  match cs, hl with
  | [c0, c1], _ =>
    simp only [cells24, cells25] at h0 h1
    obtain ⟨p, x, e0, k0⟩ := open_group h0
    obtain ⟨q, t, v1, v2, v3, v4, e1, k1⟩ := open_unit h1
    simp at e0 e1
    subst e0 e1
    exact ⟨⟨p, x, q, t, v1, v2, v3, v4⟩, rfl, k0, k1⟩

/-- A slice of entries that is read. -/
theorem open_ents {fuel : Nat} {a : Option Addr} {len cap : Nat} {x : DataW H × List MemPlace} (h : DataW.trod enc Try.prog W base spare held fuel 22 (Value.cells (.slice a len cap)).toList = some x) :
    ∃ L, EntsIn W (.slice a len cap) L ∧ L.length ≤ maxLen := by
  rcases Deep.open_slice Try.underlying22 h with ⟨hcs, _⟩ | ⟨ad, len', cap', m, n, D, Pl, hcs, _, hl, hm, hmm, _, hel⟩
  · simp [Value.cells] at hcs
    obtain ⟨rfl, rfl, rfl⟩ := hcs
    exact ⟨[], ⟨none, 0, rfl, fun _ => rfl, Or.inl rfl⟩, by simp⟩
  · simp [Value.cells] at hcs
    obtain ⟨rfl, rfl, rfl⟩ := hcs
    have hlm : len ≤ m := by rw [hmm]; split <;> omega
    have _ : Inhabited Ent := ⟨⟨none, 0, none, 0, 0, 0, 0, 0⟩⟩
    obtain ⟨F, hF⟩ := Deep.choose_lt (α := Ent) (n := len) (p := fun i e => EntOk W e ∧ ∀ j, j < 2 → W.cell? ((ad.add (i * 2)).add j) = [ptr e.gp, ptr e.rp][j]?) (fun i hi => by
      obtain ⟨cs', h1, h2⟩ := hel i (by omega)
      rw [cells27] at h1
      obtain ⟨e, rfl, he⟩ := open_ent h2
      obtain ⟨_, _, hc⟩ := World.cells?_some h1
      exact ⟨e, he, hc⟩)
    refine ⟨(List.range len).map F, ⟨some ad, cap, by simp, (fun e => by cases e), ?_⟩, by simp; omega⟩
    by_cases h0 : len = 0
    · left; rw [h0]; rfl
    · right
      have c0 := (hF 0 (by omega)).2 0 (by omega)
      have c0' : W.cell? ad = some (ptr (F 0).gp) := by simpa [Addr.add] using c0
      have e := spot_none c0'
      generalize ad.block = g at e
      generalize ad.off = off at e
      subst e
      refine ⟨g, off, rfl, World.block_lt_of_cell? W ⟨g, off, none⟩ c0', fun i hi => ?_⟩
      have hi' : i < len := by simpa using hi
      have key := (hF i hi').2
      simp only [Addr.add_lit] at key
      simp only [List.getElem_map, List.getElem_range]
      exact ⟨key 0 (by omega), key 1 (by omega), (hF i hi').1⟩
end

end Go.Proofs.Qxb6612213a
