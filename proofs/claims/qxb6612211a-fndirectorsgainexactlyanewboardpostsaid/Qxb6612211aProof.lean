/-
  THE PROOF OF 'Rows.FnDirectorsGainExactlyANewBoardPostSaid'. The frame is the kit's template at this function's number and types.
-/
import Derived.Test.Qxb6612211aRows
import Derived.Test.Qxb6612211aMain
import Derived.OpenShut
import Derived.ShutString
import Derived.ChangeOld
import Derived.Lib.SmallJoins
import Derived.Deep.Slices
import Derived.Deep.Strs
namespace Go.Proofs.Qxb6612211a.fnDirectors
open Go.ChangeShapes Go.WideShapes Go.ChangeAt Go.RowKit Go.Joins
open Go.ChangeMaps (open_string shut_string)

theorem own : ownKnob Try.prog.godebug = none := by kernel_rfl
theorem laidOut : laidOutB Try.prog = true := by kernel_rfl
theorem cells24 : Try.prog.cellsOf 24 = 3 := by kernel_rfl
theorem cells9 : Try.prog.cellsOf 9 = 1 := by kernel_rfl

section
variable {H : Type} {enc : TypeId × Value → H} {W : World} {base : Nat} {spare : Nat → Bool} {held : Bool}

/-- A post that is read: its three cells are strings. -/
theorem open_post {n : Nat} {cs : List Value} {y : DataW H × List MemPlace} (h : DataW.trod enc Try.prog W base spare held n 24 cs = some y) : ∃ p : Post, cs = postCells p ∧ Small p := by
  obtain ⟨y0, y1, y2, m, _, hl, h0, h1, h2⟩ := Deep.trod_struct3 Try.underlying24 h
  rw [cells24] at hl
  match cs, hl with
  | [c0, c1, c2], _ =>
    simp only [cells9] at h0 h1 h2
    obtain ⟨s0, e0, _, z0⟩ := DataW.trod_string Try.underlying9 h0
    obtain ⟨s1, e1, _, z1⟩ := DataW.trod_string Try.underlying9 h1
    obtain ⟨s2, e2, _, z2⟩ := DataW.trod_string Try.underlying9 h2
    simp at e0 e1 e2
    subst e0 e1 e2
    exact ⟨⟨s0, s1, s2⟩, rfl, z0, z1, z2⟩

theorem spot_none {w : World} {a : Addr} {v : Value} (h : w.cell? a = some v) : a = ⟨a.block, a.off, none⟩ := by
  obtain ⟨b, o, s⟩ := a
  cases s with
  | none => rfl
  | some x =>
    simp only [World.cell?] at h
    split at h <;> simp at h

/-- A slice of posts that is read. -/
theorem open_posts {fuel : Nat} {a : Option Addr} {len cap : Nat} {x : DataW H × List MemPlace} (h : DataW.trod enc Try.prog W base spare held fuel 22 (Value.cells (.slice a len cap)).toList = some x) :
    ∃ L, PostsIn W (.slice a len cap) L ∧ (∀ p ∈ L, Small p) ∧ L.length ≤ maxLen := by
  rcases Deep.open_slice Try.underlying22 h with ⟨hcs, _⟩ | ⟨ad, len', cap', m, n, D, Pl, hcs, _, hl, hm, hmm, _, hel⟩
  · simp [Value.cells] at hcs
    obtain ⟨rfl, rfl, rfl⟩ := hcs
    exact ⟨[], ⟨none, 0, rfl, fun _ => rfl, Or.inl rfl⟩, by simp, by simp⟩
  · simp [Value.cells] at hcs
    obtain ⟨rfl, rfl, rfl⟩ := hcs
    have hlm : len ≤ m := by rw [hmm]; split <;> omega
    have _ : Inhabited Post := ⟨⟨ByteArray.empty, ByteArray.empty, ByteArray.empty⟩⟩
    obtain ⟨F, hF⟩ := Deep.choose_lt (α := Post) (n := len) (p := fun i p => Small p ∧ ∀ j, j < 3 → W.cell? ((ad.add (i * 3)).add j) = (postCells p)[j]?) (fun i hi => by
      obtain ⟨cs', h1, h2⟩ := hel i (by omega)
      rw [cells24] at h1
      obtain ⟨p, rfl, hp⟩ := open_post h2
      obtain ⟨_, _, hc⟩ := World.cells?_some h1
      exact ⟨p, hp, hc⟩)
    refine ⟨(List.range len).map F, ⟨some ad, cap, by simp, (fun e => by cases e), ?_⟩, fun p hp => ?_, by simp; omega⟩
    · by_cases h0 : len = 0
      · left; rw [h0]; rfl
      · right
        have c0 := (hF 0 (by omega)).2 0 (by omega)
        have e := spot_none (v := .string (F 0).a) (w := W) (a := ad) (by simpa [Addr.add, postCells] using c0)
        generalize hg : ad.block = g at e
        generalize ho : ad.off = off at e
        subst e
        have hlt := World.block_lt_of_cell? W ⟨g, off, none⟩ (u := .string (F 0).a) (by simpa [Addr.add, postCells] using c0)
        refine ⟨g, off, rfl, hlt, fun i hi => ?_⟩
        have hi' : i < len := by simpa using hi
        have key := (hF i hi').2
        simp only [Addr.add_lit] at key
        simp only [List.getElem_map, List.getElem_range]
        exact ⟨key 0 (by omega), key 1 (by omega), key 2 (by omega)⟩
    · obtain ⟨i, hi, rfl⟩ := List.mem_map.1 hp
      exact (hF i (by simpa using hi)).1
end

set_option maxRecDepth 100000 in
theorem lifted (os : Os) (started : os.Started) (H : Type) (enc : TypeId × Value → H) :
    ReturnsInHanded {} Try.checked os 3 .any (Rows.fnDirectorsGainExactlyANewBoardPostSpec.pre6 enc Try.prog Try.f3 Rows.fnDirectorsGainExactlyANewBoardPostRow.domain false) (Rows.fnDirectorsGainExactlyANewBoardPostSpec.post enc Try.prog Try.f3 false true false false) := by
  refine returnsInHanded_of_change (C := Try.checked) own started (by kernel_rfl) Try.func3
    (ChangeSpec.witness6 (enc := enc) (C := Try.checked) false ⟨#[], #[.string ByteArray.empty, .slice none 0 0, .agg #[.string ByteArray.empty, .string ByteArray.empty, .string ByteArray.empty]], []⟩ 8 (by kernel_rfl) (by kernel_rfl) (by kernel_rfl) (by kernel_rfl)) ?_
  intro W base args ds gs before hval0 hW hcnd _
  have hval : ∀ (j : Nat) t v, Try.f3.params[j]? = some t → args[j]? = some v → Value.okWide Try.prog W .any base t v := hval0
  have hW' := hW
  obtain ⟨p, q, hA0, hV, rfl, hfz, hnd⟩ := hW
  have hA : DataW.TrodAll enc Try.prog W 0 (fun _ => true) true Try.f3.params.toList args.toList ds p := hA0
  rw [Try.params3] at hA hval
  obtain ⟨v0, vs0, d0, ds0, p0, q0, hargs, rfl, rfl, h0, r0⟩ := trodAll_cons hA
  obtain ⟨v1, vs1, d1, ds1, p1, q1, rfl, rfl, rfl, h1, r1⟩ := trodAll_cons r0
  obtain ⟨v2, vs2, d2, ds2, p2, q2, rfl, rfl, rfl, h2, r2⟩ := trodAll_cons r1
  obtain ⟨rfl, rfl, rfl⟩ := trodAll_nil r2
  obtain rfl : args = #[v0, v1, v2] := by cases args; simp_all
  obtain ⟨rfl, rfl⟩ := trodVars_none hV
  have k0 := h0
  have k1 := h1
  have k2 := h2
  have lt0 : ∀ x ∈ p0, x.block < W.heap.size := by obtain ⟨m, hm⟩ := k0; exact DataW.trod_lt m _ _ _ hm
  have lt1 : ∀ x ∈ p1, x.block < W.heap.size := by obtain ⟨m, hm⟩ := k1; exact DataW.trod_lt m _ _ _ hm
  have lt2 : ∀ x ∈ p2, x.block < W.heap.size := by obtain ⟨m, hm⟩ := k2; exact DataW.trod_lt m _ _ _ hm
  obtain ⟨c, rfl, _, _, hcz⟩ := open_string Try.underlying9 (hval 0 9 v0 rfl rfl) h0
  obtain ⟨a, len, cap, rfl⟩ := okWide_slice Try.underlying22 (hval 1 22 v1 rfl rfl)
  obtain ⟨L, hL, hsz, hl⟩ : ∃ L, PostsIn W (.slice a len cap) L ∧ (∀ p ∈ L, Small p) ∧ L.length ≤ maxLen := by
    obtain ⟨fuel, hf⟩ := h1
    exact open_posts hf
  obtain ⟨x, rfl, hx⟩ : ∃ x : Post, v2 = .agg #[.string x.a, .string x.f, .string x.r] ∧ Small x := by
    obtain ⟨c0, c1, c2, y0, y1, y2, m, rfl, _, _, hy0, hy1, hy2⟩ := open_agg3 Try.underlying24 (by kernel_rfl) cells24 (hval 2 24 v2 rfl rfl) h2
    obtain ⟨s0, e0, _, z0⟩ := DataW.trod_string Try.underlying9 hy0
    obtain ⟨s1, e1, _, z1⟩ := DataW.trod_string Try.underlying9 hy1
    obtain ⟨s2, e2, _, z2⟩ := DataW.trod_string Try.underlying9 hy2
    simp at e0 e1 e2
    subst e0 e1 e2
    exact ⟨⟨s0, s1, s2⟩, rfl, z0, z1, z2⟩
  clear hA0 hval0
  refine (walk c a len cap L x W hcz hl hsz hx hL).mono fun e W' ⟨he, bel⟩ => ?_
  subst he
  exact ⟨_, rfl, _, _, _, [], _, [], hW', trodAll_mk1 (shut_bool Try.underlying4 _), (trodAll_cons_mk (Below.trod laidOut (by kernel_rfl) (of_decide_eq_true (by kernel_rfl)) k0 bel lt0) (trodAll_cons_mk (Below.trod laidOut (by kernel_rfl) (of_decide_eq_true (by kernel_rfl)) k1 bel lt1) (trodAll_cons_mk (Below.trod laidOut (by kernel_rfl) (of_decide_eq_true (by kernel_rfl)) k2 bel lt2) trodAll_mk0))), rfl, bel.frame _, fun h => by cases h⟩

theorem over : Rows.fnDirectorsGainExactlyANewBoardPostRow.holds Try.pinned (OpenSpec.ofChange Rows.fnDirectorsGainExactlyANewBoardPostSpec) :=
  OpenClaim.holds_of_wide 3 Try.f3 rfl rfl rfl rfl rfl rfl rfl ⟨rfl, rfl, rfl, rfl, rfl⟩ rfl rfl rfl rfl rfl (by kernel_rfl) Try.func3 (by kernel_rfl)
    (of_decide_eq_true (by kernel_rfl)) (by unfold Func.isWrapper; first | (rw [if_pos (by decide +kernel)]; kernel_rfl) | (rw [if_neg (by decide +kernel)]; exact ⟨rfl, rfl⟩))
    (fun os started H enc _ => lifted os started H enc)

/-- THE STATEMENT. -/
theorem proved : Rows.FnDirectorsGainExactlyANewBoardPostSaid := over
end Go.Proofs.Qxb6612211a.fnDirectors
