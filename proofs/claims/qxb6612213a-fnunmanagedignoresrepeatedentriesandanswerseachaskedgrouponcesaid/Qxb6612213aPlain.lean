/-
  Plain mathematics of the seat b6612213a: each number once, where it first comes. Nothing of the dump.
-/
namespace Go.Proofs.Qxb6612213a

/-- One step: x is added at the end if it is new. -/
def addNew (acc : List Int) (x : Int) : List Int := if acc.contains x then acc else acc ++ [x]
/-- Each number once, where it first comes. -/
def firsts (l : List Int) : List Int := l.foldl addNew []

theorem firsts_snoc (l : List Int) (x : Int) : firsts (l ++ [x]) = addNew (firsts l) x := by simp [firsts, List.foldl_append]

theorem foldl_mem (x : Int) : ∀ (l acc : List Int), x ∈ l.foldl addNew acc ↔ x ∈ acc ∨ x ∈ l
  | [], acc => by simp
  | y :: l, acc => by
    rw [List.foldl_cons, foldl_mem x l (addNew acc y)]
    unfold addNew
    by_cases h : acc.contains y = true
    · rw [if_pos h]
      simp only [List.mem_cons]
      constructor
      · rintro (h1 | h1) <;> simp [h1]
      · rintro (h1 | h1 | h1)
        · exact Or.inl h1
        · subst h1; exact Or.inl (by simpa using h)
        · exact Or.inr h1
    · rw [if_neg h]
      simp [or_assoc]
theorem mem_firsts (x : Int) (l : List Int) : x ∈ firsts l ↔ x ∈ l := by
  unfold firsts; rw [foldl_mem]; simp

theorem firsts_old {l : List Int} {x : Int} (h : x ∈ l) : firsts (l ++ [x]) = firsts l := by
  rw [firsts_snoc, addNew, if_pos (by simpa using (mem_firsts x l).2 h)]
theorem firsts_new {l : List Int} {x : Int} (h : ¬ x ∈ l) : firsts (l ++ [x]) = firsts l ++ [x] := by
  rw [firsts_snoc, addNew, if_neg (by simpa using fun e => h ((mem_firsts x l).1 e))]

/-- What has all come before adds nothing. -/
theorem foldl_old : ∀ (l acc : List Int), (∀ x ∈ l, x ∈ acc) → l.foldl addNew acc = acc
  | [], _, _ => rfl
  | y :: l, acc, h => by
    rw [List.foldl_cons]
    have e : addNew acc y = acc := by unfold addNew; rw [if_pos (by simpa using h y (by simp))]
    rw [e]
    exact foldl_old l acc fun x hx => h x (by simp [hx])
theorem firsts_twice (l : List Int) : firsts (l ++ l) = firsts l := by
  unfold firsts
  rw [List.foldl_append]
  exact foldl_old l _ fun x hx => (mem_firsts x l).2 hx

theorem firsts_length_le (l : List Int) : (firsts l).length ≤ l.length := by
  suffices h : ∀ (l acc : List Int), (l.foldl addNew acc).length ≤ acc.length + l.length by simpa [firsts] using h l []
  intro l
  induction l with
  | nil => intro acc; simp
  | cons y l ih =>
    intro acc
    rw [List.foldl_cons]
    have := ih (addNew acc y)
    have h2 : (addNew acc y).length ≤ acc.length + 1 := by unfold addNew; split <;> simp
    simp only [List.length_cons]
    omega

end Go.Proofs.Qxb6612213a
