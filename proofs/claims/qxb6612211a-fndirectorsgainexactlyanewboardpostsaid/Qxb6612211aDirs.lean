/-
  Directors. Seat b6612211a.
-/
import Derived.Test.Qxb6612211aPostsAt
import Derived.Test.Qxb6612211aSet
namespace Go.Proofs.Qxb6612211a
open Go.RowKit Go.Maps Go.Sort Go.Shelf

/-- WHAT Directors GIVES: the ids of those who hold a board post at c, each once, rising. -/
def Dirs (c : List UInt8) (L : List Post) (S : List (List UInt8)) : Prop :=
  S.Pairwise (· < ·) ∧ (∀ x, x ∈ S ↔ ∃ p ∈ L, p.a.data.toList = c ∧ boardB p.r = true ∧ p.f.data.toList = x) ∧ S.length ≤ L.length

/-- .. of the facts at c. -/
def DirsF (F : List Post) (S : List (List UInt8)) : Prop :=
  S.Pairwise (· < ·) ∧ (∀ x, x ∈ S ↔ ∃ p ∈ F, boardB p.r = true ∧ p.f.data.toList = x) ∧ S.length ≤ F.length
theorem strKeys_size {H : Type} (D : DataW H) : (strKeys D).length = Maps.size D := by cases D <;> simp [strKeys, Maps.size]
theorem dirs_of {c : List UInt8} {L : List Post} {S : List (List UInt8)} (h : DirsF (grp c L) S) : Dirs c L S :=
  ⟨h.1, fun x => by rw [h.2.1 x]; simp [grp, and_assoc], Nat.le_trans h.2.2 (grp_le _ _)⟩

/-- The set after the facts F. -/
def SetIs (D : DataW Unit) (F : List Post) : Prop := ∀ x, has D (.string x) = true ↔ ∃ p ∈ F, boardB p.r = true ∧ p.f.data.toList = x

theorem setIs_none : SetIs (.map []) [] := fun x => by simp [has_eq]
theorem SetIs.skip {D : DataW Unit} {F : List Post} {p : Post} (h : SetIs D F) (hp : boardB p.r = false) : SetIs D (F ++ [p]) := fun x => by
  rw [h x]
  simp only [List.mem_append, List.mem_singleton]
  constructor
  · rintro ⟨q, hq, r⟩; exact ⟨q, Or.inl hq, r⟩
  · rintro ⟨q, hq | rfl, r⟩
    · exact ⟨q, hq, r⟩
    · rw [hp] at r; simp at r
theorem SetIs.add {D : DataW Unit} {F : List Post} {p : Post} (h : SetIs D F) (hD : IsMap D) (hp : boardB p.r = true) : SetIs (D.put (.string p.f.data.toList) (.lit (.bool true))) (F ++ [p]) := fun x => by
  simp only [List.mem_append, List.mem_singleton]
  by_cases hx : x = p.f.data.toList
  · subst hx
    rw [has_put_same hD (by simp [WideAt.IsKeyLit])]
    simp only [true_iff]
    exact ⟨p, Or.inr rfl, hp, rfl⟩
  · rw [has_put_other (by simpa using hx), h x]
    constructor
    · rintro ⟨q, hq, r⟩; exact ⟨q, Or.inl hq, r⟩
    · rintro ⟨q, hq | rfl, r⟩
      · exact ⟨q, hq, r⟩
      · exact absurd r.2.symm hx

theorem flat_get (F : List Post) (k j : Nat) (hk : k < F.length) (hj : j < 8) : (flat F)[k * 8 + j]? = (factCells F[k])[j]? := by
  induction F generalizing k with
  | nil => simp at hk
  | cons p F ih =>
    have e : flat (p :: F) = factCells p ++ flat F := rfl
    have hl : (factCells p).length = 8 := rfl
    rw [e]
    cases k with
    | zero => rw [List.getElem?_append_left (by rw [hl]; omega)]; simp
    | succ k =>
      rw [List.getElem?_append_right (by rw [hl]; omega), hl]
      have := ih k (by simpa using hk)
      rw [show (k + 1) * 8 + j - 8 = k * 8 + j by omega, this]
      simp

theorem facts_cells {w : World} {base cap g : Nat} {F : List Post} (h : w.ownsRow base 59 8 (.slice (some ⟨g, 0, none⟩) F.length cap) F.length (flat F)) (k : Nat) (hk : k < F.length) :
    ∀ j, j < 8 → w.cell? ⟨g, k * 8 + j, none⟩ = (factCells F[k])[j]? := by
  intro j hj
  have hl : (factCells F[k]).length = 8 := rfl
  have hu := flat_get F k j hk hj
  rw [List.getElem?_eq_getElem (i := j) (by omega)] at hu ⊢
  have := h.cells (g := g) rfl (k * 8 + j) _ hu
  rw [← this]
  congr 1
  unfold Addr.add
  split <;> simp_all

set_option maxHeartbeats 400000 in
theorem directors_some (d vb rb base mb g cap : Nat) (company : ByteArray) (F : List Post) (w : World)
    (hsz : ∀ p ∈ F, p.f.size ≤ maxLen) (hl : F.length ≤ 8192)
    (hd : w.cell? ⟨d, 0, none⟩ = some (.pointer (some ⟨vb, 0, none⟩))) (hv0 : w.cell? ⟨vb, 0, none⟩ = some (.pointer (some ⟨rb, 0, none⟩))) (hv4 : w.cell? ⟨vb, 4, none⟩ = some (.map (some mb))) (hr : w.cell? ⟨rb, 0, none⟩ = some (.string company))
    (hlk : ∀ W : World, W.heap[mb]? = w.heap[mb]? → (Instr.lookup 30 (.map (some mb)) (.string company) false).run Try.prog W = .ok (.slice (some ⟨g, 0, none⟩) F.length cap) W) (hmb : mb < w.heap.size)
    (hrow : w.ownsRow base 59 8 (.slice (some ⟨g, 0, none⟩) F.length cap) F.length (flat F)) :
    Calls Try.prog 8 #[.pointer (some ⟨d, 0, none⟩)] w fun e w' => ∃ v S, e = .returned v ∧ DirsF F S ∧ w'.ownsRow w.heap.size 9 1 v S.length (S.map encStr) ∧ Below w.heap.size w w' := by
  have hmm := @run_makeMap Try.prog
  have l1 := fun o => hlk (w.alloc o).drew (drew_block w o _ hmb)
  clear hlk
  go_enter Try.func8, Try.ntmps8
  go_wp2
  go_region_held3 (fun w' => w'.cell? ⟨d, 0, none⟩ = some (.pointer (some ⟨vb, 0, none⟩)) ∧ w'.cell? ⟨vb, 0, none⟩ = some (.pointer (some ⟨rb, 0, none⟩)) ∧ w'.cell? ⟨vb, 4, none⟩ = some (.map (some mb)) ∧ w'.cell? ⟨rb, 0, none⟩ = some (.string company)) (go_keep) (fail)
  go_wp2
  go_loopw [26] (fun i wr => ∃ k : Nat, k ≤ F.length ∧ i = .int .i64 k ∧ (∃ D, wr.ownsMap Try.prog 9 (plainElem Try.prog 4) w.heap.size k D ∧ SetIs D (F.take k)) ∧ Below w.heap.size w wr) (fun i _ => F.length - (intOf i).toNat)
  case atStart => exact ⟨0, Nat.zero_le _, rfl, ⟨_, World.ownsMap_made w _ _ _, setIs_none⟩, ((Below.refl _ _).alloc (Nat.le_refl _) _).drew⟩
  case round =>
    obtain ⟨k, hk, rfl, ⟨D, hown, hset⟩, hnx⟩ := hrel
    by_cases hlt : k < F.length
    · have hcs := facts_cells hrow k hlt
      have hgl : g < w.heap.size := (hrow.lt g rfl).2
      have f0 := (hnx.cell (p := ⟨g, k * 8, none⟩) hgl).trans (hcs 0 (by omega))
      have f1 := (hnx.cell (p := ⟨g, k * 8 + 1, none⟩) hgl).trans (hcs 1 (by omega))
      have f2 := (hnx.cell (p := ⟨g, k * 8 + 2, none⟩) hgl).trans (hcs 2 (by omega))
      have f3 := (hnx.cell (p := ⟨g, k * 8 + 3, none⟩) hgl).trans (hcs 3 (by omega))
      have f4 := (hnx.cell (p := ⟨g, k * 8 + 4, none⟩) hgl).trans (hcs 4 (by omega))
      have f5 := (hnx.cell (p := ⟨g, k * 8 + 5, none⟩) hgl).trans (hcs 5 (by omega))
      have f6 := (hnx.cell (p := ⟨g, k * 8 + 6, none⟩) hgl).trans (hcs 6 (by omega))
      have f7 := (hnx.cell (p := ⟨g, k * 8 + 7, none⟩) hgl).trans (hcs 7 (by omega))
      simp only [factCells, List.getElem?_cons_zero, List.getElem?_cons_succ] at f0 f1 f2 f3 f4 f5 f6 f7
      clear hcs
      have hs := hsz F[k] (List.getElem_mem hlt)
      have hbs : w.heap.size < wr.heap.size := hown.lt
      by_cases hb : boardB F[k].r = true
      · have HR : Hid (SetIs (D.put (.string F[k].f.data.toList) (.lit (.bool true))) (F.take (k + 1))) := by
          rw [List.take_succ_eq_append_getElem hlt]
          exact hset.add hown.isMap hb
        go_wp2_with (first | (go_at_call 11; refine (roleOnBoard_any _ _).mono ?_; rintro e w' ⟨rfl, rfl⟩) | (go_at_call 12; refine (add_one w.heap.size k D (wr.heap.size + 1) F[k].f hs (by unfold maxLen; omega) _ ((hown.alloc _).alloc _) (by simp)).mono ?_; rintro e w' ⟨rfl, hown', hgrow'⟩))
        go_roundw
        case rel => exact ⟨k + 1, by omega, by go_num, ⟨_, hown', HR.out⟩, ((hnx.alloc hnx.size _).alloc (by simp; omega) _).grown hgrow' (by simp; omega) (fun j hj => by cases hj; exact Nat.le_refl _)⟩
        case measure => simp [intOf]; omega
      · have hb' : boardB F[k].r = false := by simpa using hb
        have HR : Hid (SetIs D (F.take (k + 1))) := by
          rw [List.take_succ_eq_append_getElem hlt]
          exact hset.skip hb'
        clear hb
        go_wp2_with (go_at_call 11; refine (roleOnBoard_any _ _).mono ?_; rintro e w' ⟨rfl, rfl⟩)
        go_roundw
        case rel => exact ⟨k + 1, by omega, by go_num, ⟨_, (hown.alloc _).mono (Nat.le_succ _), HR.out⟩, hnx.alloc hnx.size _⟩
        case measure => simp [intOf]; omega
    · obtain rfl : k = F.length := by omega
      have hsl := hown.size_le
      have hm := members_any w.heap.size F.length D _ wr hown (by unfold maxLen; omega) (by omega)
      have hfs := set_facts hown law9 Try.underlying9
      have hnx' : w.heap.size ≤ wr.heap.size := hnx.size
      go_wp2_with (go_at_call 13; refine hm.mono ?_; rintro e w' ⟨v, ss, rfl, hS, hrow', hnil, hb'⟩)
      go_ret
      refine ⟨v, _, rfl, ⟨rising_of ss (hS.nodup_iff.2 hfs.1), fun x => ?_, by rw [List.length_mergeSort, hS.length_eq, strKeys_size]; exact hsl⟩, ?_, hnx.trans (hb'.mono hnx')⟩
      · rw [List.mem_mergeSort, hS.mem_iff, hfs.2 x, hset x]
        simp
      · rw [List.length_mergeSort]
        exact ownsRow_base_a hrow' hnx'

set_option maxHeartbeats 400000 in
theorem directors_none (d vb rb mb cap : Nat) (a : Option Addr) (company : ByteArray) (w : World)
    (hd : w.cell? ⟨d, 0, none⟩ = some (.pointer (some ⟨vb, 0, none⟩))) (hv0 : w.cell? ⟨vb, 0, none⟩ = some (.pointer (some ⟨rb, 0, none⟩))) (hv4 : w.cell? ⟨vb, 4, none⟩ = some (.map (some mb))) (hr : w.cell? ⟨rb, 0, none⟩ = some (.string company))
    (hlk : ∀ W : World, W.heap[mb]? = w.heap[mb]? → (Instr.lookup 30 (.map (some mb)) (.string company) false).run Try.prog W = .ok (.slice a 0 cap) W) (hmb : mb < w.heap.size) :
    Calls Try.prog 8 #[.pointer (some ⟨d, 0, none⟩)] w fun e w' => ∃ v S, e = .returned v ∧ DirsF [] S ∧ w'.ownsRow w.heap.size 9 1 v S.length (S.map encStr) ∧ Below w.heap.size w w' := by
  have hmm := @run_makeMap Try.prog
  have l1 := fun o => hlk (w.alloc o).drew (drew_block w o _ hmb)
  clear hlk
  have hown := (World.ownsMap_made (H := Unit) w Try.prog 9 (plainElem Try.prog 4)).drew
  go_enter Try.func8, Try.ntmps8
  go_wp2
  go_region_held3 (fun w' => w'.cell? ⟨d, 0, none⟩ = some (.pointer (some ⟨vb, 0, none⟩)) ∧ w'.cell? ⟨vb, 0, none⟩ = some (.pointer (some ⟨rb, 0, none⟩)) ∧ w'.cell? ⟨vb, 4, none⟩ = some (.map (some mb)) ∧ w'.cell? ⟨rb, 0, none⟩ = some (.string company)) (go_keep) (fail)
  go_wp2
  refine wp_loop_rounds 1 ?_
  rw [rounds_succ]
  have hm := members_any w.heap.size 0 (.map [] : DataW Unit) _ _ hown (Nat.zero_le _) (by simp [Maps.size])
  have hfs := set_facts hown law9 Try.underlying9
  clear hown
  go_wp2_with (go_at_call 13; refine hm.mono ?_; rintro e w' ⟨v, ss, rfl, hS, hrow', hnil, hb'⟩)
  go_ret
  refine ⟨v, _, rfl, ⟨rising_of ss (hS.nodup_iff.2 hfs.1), fun x => ?_, by rw [List.length_mergeSort, hS.length_eq, strKeys_size]; exact Nat.le_refl _⟩, ?_, ((Below.refl _ _).alloc (Nat.le_refl _) _).drew.trans (hb'.mono (by show w.heap.size ≤ (w.alloc _).heap.size; simp))⟩
  · rw [List.mem_mergeSort, hS.mem_iff, hfs.2 x]
    simp [has_eq]
  · rw [List.length_mergeSort]
    exact ownsRow_base_a hrow' (by show w.heap.size ≤ (w.alloc _).heap.size; simp)

/-- Directors, at the day that ZZnewDay has made over postsAtOf's map. -/
theorem directors_any (d vb rb base mb n : Nat) (company : ByteArray) (L : List Post) (w : World) (hsz : ∀ p ∈ L, p.f.size ≤ maxLen) (hl : L.length ≤ 8192) (hcs : company.size ≤ maxLen) (hn : n < maxLen)
    (hd : w.cell? ⟨d, 0, none⟩ = some (.pointer (some ⟨vb, 0, none⟩))) (hv0 : w.cell? ⟨vb, 0, none⟩ = some (.pointer (some ⟨rb, 0, none⟩))) (hv4 : w.cell? ⟨vb, 4, none⟩ = some (.map (some mb))) (hr : w.cell? ⟨rb, 0, none⟩ = some (.string company))
    (hG : Groups w base mb n L) :
    Calls Try.prog 8 #[.pointer (some ⟨d, 0, none⟩)] w fun e w' => ∃ v S, e = .returned v ∧ Dirs company.data.toList L S ∧ w'.ownsRow w.heap.size 9 1 v S.length (S.map encStr) ∧ Below w.heap.size w w' := by
  obtain ⟨v, hlk, hrow, _⟩ := hG.look company hcs hn
  have hmb : mb < w.heap.size := Nat.lt_of_lt_of_le hG.1 hG.2.1
  rcases hrow.2 with ⟨rfl, h0⟩ | ⟨g, cap, cur, rfl, _⟩
  · refine (directors_none d vb rb mb 0 none company w hd hv0 hv4 hr hlk hmb).mono ?_
    rintro e w' ⟨v, S, he, hS, r⟩
    refine ⟨v, S, he, dirs_of ?_, r⟩
    rw [List.length_eq_zero_iff.1 h0]
    exact hS
  · refine (directors_some d vb rb base mb g cap company (grp company.data.toList L) w (fun p hp => hsz p (List.mem_filter.1 hp).1) (Nat.le_trans (grp_le _ _) hl) hd hv0 hv4 hr hlk hmb hrow).mono ?_
    rintro e w' ⟨v, S, he, hS, r⟩
    exact ⟨v, S, he, dirs_of hS, r⟩

end Go.Proofs.Qxb6612211a
