/-
  Plain mathematics of countDistinctAsked: an insertion by moves; the count of the distinct numbers of a sorted list. Seat b6612213a. Nothing of the dump.
-/
import Derived.Test.Qxb6612213aPlain
namespace Go.Proofs.Qxb6612213a

/-- The list as it stands when the numbers from j on up to i have been moved one place up (X: as it was). -/
def Moved (X R : List Int) (i j : Nat) : Prop :=
  R.length = X.length ∧ ∀ m (h : m < R.length) (h' : m < X.length), R[m] = if m ≤ j then X[m] else if m ≤ i then X[m - 1]'(by omega) else X[m]

theorem moved_start (X : List Int) (i : Nat) : Moved X X i i := ⟨rfl, fun m h h' => by
  by_cases hm : m ≤ i
  · rw [if_pos hm]
  · rw [if_neg hm, if_neg hm]⟩

/-- One move. -/
theorem Moved.step {X R : List Int} {i j : Nat} (h : Moved X R i (j + 1)) (hi : i < X.length) (hj : j + 1 ≤ i) : Moved X (R.set (j + 1) (X[j]'(by omega))) i j := by
  refine ⟨by simp [h.1], fun m hm hm' => ?_⟩
  have hmR : m < R.length := by simpa using hm
  rw [List.getElem_set]
  by_cases e : j + 1 = m
  · subst e
    rw [if_pos rfl, if_neg (by omega), if_pos (by omega)]
    rfl
  · rw [if_neg e, h.2 m hmR hm']
    by_cases h1 : m ≤ j
    · rw [if_pos (by omega), if_pos h1]
    · rw [if_neg (by omega), if_neg h1]

/-- The hole is read as it was. -/
theorem Moved.get {X R : List Int} {i j : Nat} (h : Moved X R i j) (m : Nat) (hm : m ≤ j) (hX : m < X.length) : ∃ hR : m < R.length, R[m] = X[m] := by
  refine ⟨by rw [h.1]; exact hX, ?_⟩
  rw [h.2 m (by rw [h.1]; exact hX) hX, if_pos hm]

/-- What lies in the list behind the insertion. -/
theorem Moved.put {X R : List Int} {i j : Nat} (h : Moved X R i j) (hi : i < X.length) (_hj : j ≤ i) (m : Nat) (hm : m < (R.set j X[i]).length) (hm' : m < X.length) :
    (R.set j X[i])[m] = if m < j then X[m] else if m = j then X[i] else if m ≤ i then X[m - 1]'(by omega) else X[m] := by
  have hmR : m < R.length := by simpa using hm
  rw [List.getElem_set]
  by_cases e : j = m
  · subst e
    rw [if_pos rfl, if_neg (by omega), if_pos rfl]
  · rw [if_neg e, h.2 m hmR hm']
    by_cases h1 : m < j
    · rw [if_pos (by omega), if_pos h1]
    · rw [if_neg (by omega), if_neg h1, if_neg (show ¬ m = j from fun e' => e e'.symm)]

/-- The members are the same. -/
theorem Moved.mem {X R : List Int} {i j : Nat} (h : Moved X R i j) (hi : i < X.length) (hj : j ≤ i) (x : Int) : x ∈ R.set j X[i] ↔ x ∈ X := by
  have hl : (R.set j X[i]).length = X.length := by simp [h.1]
  constructor
  · intro hx
    obtain ⟨m, hm, rfl⟩ := List.getElem_of_mem hx
    rw [h.put hi hj m hm (by omega)]
    split
    · exact List.getElem_mem _
    · split
      · exact List.getElem_mem _
      · split <;> exact List.getElem_mem _
  · intro hx
    obtain ⟨m, hm, rfl⟩ := List.getElem_of_mem hx
    have key : ∀ q (hq : q < (R.set j X[i]).length), (R.set j X[i])[q] = X[m] → X[m] ∈ R.set j X[i] := fun q hq e => by rw [← e]; exact List.getElem_mem _
    by_cases h1 : m < j
    · refine key m (by omega) ?_
      rw [h.put hi hj m (by omega) hm, if_pos h1]
    · by_cases h2 : m = i
      · subst h2
        refine key j (by omega) ?_
        rw [h.put hi hj j (by omega) (by omega), if_neg (by omega), if_pos rfl]
      · by_cases h3 : m < i
        · refine key (m + 1) (by omega) ?_
          rw [h.put hi hj (m + 1) (by omega) (by omega), if_neg (by omega), if_neg (by omega), if_pos (by omega)]
          rfl
        · refine key m (by omega) ?_
          rw [h.put hi hj m (by omega) hm, if_neg h1, if_neg (by omega), if_neg (by omega)]

/-- The first n numbers rise (not strictly). -/
def Upto (X : List Int) (n : Nat) : Prop := ∀ a b (ha : a < X.length) (hb : b < X.length), a ≤ b → b < n → X[a] ≤ X[b]

/-- Behind the insertion one more is in order. -/
theorem Moved.sorted {X R : List Int} {i j : Nat} (h : Moved X R i j) (hi : i < X.length) (hj : j ≤ i) (hs : Upto X i) (hab : ∀ m (hm : m < X.length), j ≤ m → m < i → X[i] < X[m]) (hbe : ∀ m (hm : m < X.length), m < j → X[m] ≤ X[i]) : Upto (R.set j X[i]) (i + 1) := by
  have hl : (R.set j X[i]).length = X.length := by simp [h.1]
  intro a b ha hb hle hbn
  rw [h.put hi hj a ha (by omega), h.put hi hj b hb (by omega)]
  by_cases a1 : a < j
  · rw [if_pos a1]
    by_cases b1 : b < j
    · rw [if_pos b1]
      exact hs a b (by omega) (by omega) hle (by omega)
    · rw [if_neg b1]
      by_cases b2 : b = j
      · rw [if_pos b2]
        exact hbe a (by omega) a1
      · rw [if_neg b2, if_pos (by omega)]
        exact hs a (b - 1) (by omega) (by omega) (by omega) (by omega)
  · rw [if_neg a1, if_neg (by omega : ¬ b < j)]
    by_cases a2 : a = j
    · rw [if_pos a2]
      by_cases b2 : b = j
      · rw [if_pos b2]; exact Int.le_refl _
      · rw [if_neg b2, if_pos (by omega)]
        exact Int.le_of_lt (hab (b - 1) (by omega) (by omega) (by omega))
    · rw [if_neg a2, if_pos (by omega), if_neg (by omega : ¬ b = j), if_pos (by omega)]
      exact hs (a - 1) (b - 1) (by omega) (by omega) (by omega) (by omega)

theorem upto_one (X : List Int) : Upto X 1 := fun a b ha hb hle hb1 => by
  have e : a = b := by omega
  subst e
  exact Int.le_refl _

/-- D: the distinct ones among the first n, rising strictly. -/
def Distinct (X D : List Int) (n : Nat) : Prop := D.Pairwise (· < ·) ∧ ∀ x, x ∈ D ↔ x ∈ X.take n

theorem distinct_zero (X : List Int) : Distinct X [] 0 := ⟨List.Pairwise.nil, fun x => by simp⟩
theorem Distinct.new {X D : List Int} {n : Nat} (h : Distinct X D n) (hn : n < X.length) (hs : Upto X X.length) (hne : ∀ h0 : 0 < n, X[n] ≠ X[n - 1]'(by omega)) : Distinct X (D ++ [X[n]]) (n + 1) := by
  refine ⟨?_, fun x => ?_⟩
  · rw [List.pairwise_append]
    refine ⟨h.1, by simp, fun a ha b hb => ?_⟩
    simp at hb
    subst hb
    obtain ⟨m, hm, rfl⟩ := List.getElem_of_mem ((h.2 a).1 ha)
    have hmn : m < n := by have := List.length_take_le n X; omega
    rw [List.getElem_take]
    have h1 := hs m (n - 1) (by omega) (by omega) (by omega) (by omega)
    have h2 := hs (n - 1) n (by omega) (by omega) (by omega) (by omega)
    have h3 := hne (by omega)
    omega
  · rw [List.take_succ_eq_append_getElem hn]
    simp only [List.mem_append, h.2 x]
theorem Distinct.old {X D : List Int} {n : Nat} (h : Distinct X D n) (hn : n < X.length) (h0 : 0 < n) (he : X[n] = X[n - 1]'(by omega)) : Distinct X D (n + 1) := by
  refine ⟨h.1, fun x => ?_⟩
  rw [h.2 x, List.take_succ_eq_append_getElem hn]
  simp only [List.mem_append, List.mem_singleton]
  constructor
  · exact Or.inl
  · rintro (h1 | rfl)
    · exact h1
    · rw [he]
      have hlt : n - 1 < (X.take n).length := by simp; omega
      have : (X.take n)[n - 1] = X[n - 1]'(by omega) := List.getElem_take
      rw [← this]
      exact List.getElem_mem hlt

theorem foldl_nodup : ∀ (l acc : List Int), acc.Nodup → (l.foldl addNew acc).Nodup
  | [], _, h => h
  | x :: l, acc, h => by
    rw [List.foldl_cons]
    refine foldl_nodup l _ ?_
    unfold addNew
    split
    · exact h
    · rename_i hx
      rw [List.nodup_append]
      refine ⟨h, by simp, fun a ha b hb => ?_⟩
      simp at hb
      subst hb
      intro e
      subst e
      exact hx (by simpa using ha)
theorem firsts_nodup (l : List Int) : (firsts l).Nodup := foldl_nodup l [] List.nodup_nil

/-- THE COUNT: as many distinct numbers as there are first ones. -/
theorem count_eq {X D A : List Int} (h : Distinct X D X.length) (hm : ∀ x, x ∈ X ↔ x ∈ A) : D.length = (firsts A).length := by
  have hD : D.Nodup := List.pairwise_iff_getElem.2 fun i j hi hj hij e => by
    have := List.pairwise_iff_getElem.1 h.1 i j hi hj hij
    omega
  refine ((List.perm_ext_iff_of_nodup hD (firsts_nodup A)).2 fun x => ?_).length_eq
  rw [h.2 x, List.take_length, hm x, mem_firsts]

end Go.Proofs.Qxb6612213a
