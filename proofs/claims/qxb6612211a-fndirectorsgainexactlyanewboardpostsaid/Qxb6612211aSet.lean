/-
  A SET OF STRINGS THAT THE CALL HAS MADE, SORTED: a strictly rising list of its members. Seat b6612211a.
-/
import Derived.Sort.KeysCollected
import Derived.Test.Qxb6612211aSmall
namespace Go.Proofs.Qxb6612211a
open Go.RowKit Go.Maps

theorem set_facts {H : Type} {P : Program} {k b n : Nat} {R : Value → Option (DataW H × List MemPlace)} {w : World} {D : DataW H} (hown : w.ownsMap P k R b n D) (K : Keyed P k) (hk : P.underlying k = some .string) :
    (strKeys D).Nodup ∧ ∀ x, x ∈ strKeys D ↔ has D (.string x) = true := by
  obtain ⟨es, hD, hpw, _⟩ := hown.entries K
  obtain ⟨es', hD', hko⟩ := hown.keysOf
  obtain rfl : es = es' := by rw [hD] at hD'; simpa using hD'
  subst hD
  have hs : ∀ p ∈ es, ∃ x, p.1 = .string x := fun p hp => by
    obtain ⟨v, hv⟩ := hko p hp
    obtain ⟨x, _, hx, _⟩ := Maps.keyOf_str hk hv
    exact ⟨x, hx⟩
  refine ⟨?_, fun x => ?_⟩
  · show (es.map fun p => strOf p.1).Nodup
    refine List.pairwise_map.2 (List.pairwise_iff_getElem.2 fun i j hi hj hij e => List.pairwise_iff_getElem.1 hpw i j hi hj hij ?_)
    obtain ⟨a, ha⟩ := hs es[i] (List.getElem_mem hi)
    obtain ⟨b, hb⟩ := hs es[j] (List.getElem_mem hj)
    rw [ha, hb] at e ⊢
    exact congrArg _ e
  · rw [has_eq, List.any_eq_true]
    show x ∈ es.map (fun p => strOf p.1) ↔ _
    rw [List.mem_map]
    constructor
    · rintro ⟨p, hp', rfl⟩
      obtain ⟨a, ha⟩ := hs p hp'
      exact ⟨p, hp', by rw [ha]; simp [Lit.sameKey, strOf]⟩
    · rintro ⟨p, hp', hx⟩
      obtain ⟨a, ha⟩ := hs p hp'
      rw [ha] at hx
      exact ⟨p, hp', by rw [ha]; simpa [Lit.sameKey, strOf] using hx⟩

/-- Sorted, a list without a repeat rises strictly. -/
theorem rising_of (l : List (List UInt8)) (h : l.Nodup) : (l.mergeSort fun x y => decide (x ≤ y)).Pairwise (· < ·) := by
  have tr : ∀ a b c : List UInt8, leB a b = true → leB b c = true → leB a c = true := fun a b c h1 h2 => by simp only [leB, decide_eq_true_eq] at *; exact List.le_trans h1 h2
  have to : ∀ a b : List UInt8, (leB a b || leB b a) = true := fun a b => by simp only [leB, Bool.or_eq_true, decide_eq_true_eq]; exact List.le_total a b
  have h1 := List.pairwise_mergeSort tr to l
  have h2 : (l.mergeSort leB).Nodup := (List.mergeSort_perm l leB).nodup_iff.2 h
  refine List.pairwise_iff_getElem.2 fun i j hi hj hij => ?_
  have hle := List.pairwise_iff_getElem.1 h1 i j hi hj hij
  have hne := List.pairwise_iff_getElem.1 h2 i j hi hj hij
  simp only [leB, decide_eq_true_eq] at hle
  exact (List.le_iff_lt_or_eq.1 hle).resolve_right hne

end Go.Proofs.Qxb6612211a
