/-
  Rising lists: plain mathematics. Seat b6612211a. Nothing of the dump.
-/
import Derived.Sort.KeysCollected
namespace Go.Proofs.Qxb6612211a

/-- Two rising lists with the same members are one list. -/
theorem rising_unique : ∀ {S T : List (List UInt8)}, S.Pairwise (· < ·) → T.Pairwise (· < ·) → (∀ x, x ∈ S ↔ x ∈ T) → S = T
  | [], [], _, _, _ => rfl
  | [], t :: T, _, _, h => absurd ((h t).2 (by simp)) (by simp)
  | s :: S, [], _, _, h => absurd ((h s).1 (by simp)) (by simp)
  | s :: S, t :: T, hS, hT, h => by
    rw [List.pairwise_cons] at hS hT
    have hst : s = t := by
      have h1 := (h s).1 (by simp)
      have h2 := (h t).2 (by simp)
      rcases List.mem_cons.1 h1 with e | e
      · exact e
      · rcases List.mem_cons.1 h2 with e' | e'
        · exact e'.symm
        · exact absurd (hT.1 s e) (List.lt_asymm (hS.1 t e'))
    subst hst
    congr 1
    refine rising_unique hS.2 hT.2 fun x => ?_
    have hx := h x
    simp only [List.mem_cons] at hx
    constructor
    · intro hm
      rcases hx.1 (Or.inr hm) with e | e
      · subst e; exact absurd (hS.1 x hm) (List.lt_irrefl x)
      · exact e
    · intro hm
      rcases hx.2 (Or.inr hm) with e | e
      · subst e; exact absurd (hT.1 x hm) (List.lt_irrefl x)
      · exact e

/-- What lies behind place k is above x, if x is below the k-th. -/
theorem above_of {S : List (List UInt8)} (hS : S.Pairwise (· < ·)) {x : List UInt8} {k : Nat} (hk : ∀ h : k < S.length, x < S[k]) : ∀ y ∈ S.drop k, x < y := by
  intro y hy
  obtain ⟨j, hj, rfl⟩ := List.getElem_of_mem hy
  have hjl : k + j < S.length := by simpa [Nat.add_comm, Nat.lt_sub_iff_add_lt] using hj
  rw [List.getElem_drop]
  have h0 := hk (by omega)
  by_cases e : j = 0
  · subst e; simpa using h0
  · exact List.lt_trans h0 (List.pairwise_iff_getElem.1 hS k (k + j) (by omega) hjl (by omega))

/-- x LAID IN AT ITS PLACE. -/
theorem insert_rising {S : List (List UInt8)} (hS : S.Pairwise (· < ·)) {x : List UInt8} {k : Nat} (hb : ∀ y ∈ S.take k, y < x) (hk : ∀ h : k < S.length, x < S[k]) :
    (S.take k ++ [x] ++ S.drop k).Pairwise (· < ·) ∧ ∀ y, y ∈ S.take k ++ [x] ++ S.drop k ↔ y = x ∨ y ∈ S := by
  have ha := above_of hS hk
  refine ⟨?_, fun y => ?_⟩
  · rw [List.pairwise_append, List.pairwise_append]
    refine ⟨⟨hS.sublist (List.take_sublist k S), by simp, fun a ha' b hb' => ?_⟩, hS.sublist (List.drop_sublist k S), fun a ha' b hb' => ?_⟩
    · simp at hb'; subst hb'; exact hb a ha'
    · rcases List.mem_append.1 ha' with h | h
      · exact List.lt_trans (hb a h) (ha b hb')
      · simp at h; subst h; exact ha b hb'
  · simp only [List.mem_append, List.mem_singleton]
    have e : y ∈ S ↔ y ∈ S.take k ∨ y ∈ S.drop k := by rw [← List.mem_append, List.take_append_drop]
    rw [e]
    constructor
    · rintro ((h | h) | h) <;> simp [h]
    · rintro (h | h | h) <;> simp [h]

theorem lt_of_not {x y : List UInt8} (h1 : ¬ y < x) (h2 : y ≠ x) : x < y := by
  have : x ≤ y := h1
  exact (List.le_iff_lt_or_eq.1 this).resolve_right fun e => h2 e.symm

end Go.Proofs.Qxb6612211a
