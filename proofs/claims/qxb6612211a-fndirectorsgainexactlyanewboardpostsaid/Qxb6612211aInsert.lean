/-
  withInserted. Seat b6612211a.
-/
import Derived.Test.Qxb6612211aDirs
import Derived.Test.Qxb6612211aRise
import Derived.Sort.Walk0
namespace Go.Proofs.Qxb6612211a
open Go.RowKit Go.Maps Go.Sort Go.Shelf

/-- THE STRINGS T LIE AT THE SLICE v. -/
def StrsIn (w : World) (v : Value) (T : List (List UInt8)) : Prop :=
  ∃ a cap, v = .slice a T.length cap ∧ (T = [] ∨ ∃ g, a = some ⟨g, 0, none⟩ ∧ g < w.heap.size ∧ ∀ i (h : i < T.length), w.cell? ⟨g, i, none⟩ = some (encStr T[i]))

theorem StrsIn.below {w w' : World} {v : Value} {T : List (List UInt8)} (h : StrsIn w v T) (hb : Below w.heap.size w w') : StrsIn w' v T := by
  obtain ⟨a, cap, hv, h⟩ := h
  refine ⟨a, cap, hv, ?_⟩
  rcases h with h | ⟨g, ha, hg, hc⟩
  · exact Or.inl h
  · exact Or.inr ⟨g, ha, Nat.lt_of_lt_of_le hg hb.size, fun i hi => (hb.cell (p := ⟨g, i, none⟩) hg).trans (hc i hi)⟩

theorem strsIn_of {w : World} {base : Nat} {v : Value} {T : List (List UInt8)} (h : w.ownsRow base 9 1 v T.length (T.map encStr)) : StrsIn w v T := by
  rcases h.2 with ⟨rfl, h0⟩ | ⟨g, cap, cur, rfl, hb, hg, _⟩
  · exact ⟨none, 0, by rw [h0], Or.inl (List.length_eq_zero_iff.1 h0)⟩
  · refine ⟨_, cap, rfl, Or.inr ⟨g, rfl, (h.lt g rfl).2, fun i hi => ?_⟩⟩
    have := h.cells (g := g) rfl i (encStr T[i]) (by simp [hi])
    rwa [Addr.add_lit, Nat.zero_add] at this

theorem info9 : (Try.prog.info? 9).map (fun i => (i.zero, i.size, i.bytes)) = some (some (.string ⟨#[]⟩), 1, 16) := by kernel_rfl

theorem strs_oneCell (l : List (List UInt8)) : ∀ u ∈ l.map encStr, u.oneCell' = true := by
  intro u hu
  obtain ⟨_, _, rfl⟩ := List.mem_map.1 hu
  rfl

theorem take_cells {w W : World} {g k : Nat} {S : List (List UInt8)} (hc : ∀ i (h : i < S.length), w.cell? ⟨g, i, none⟩ = some (encStr S[i])) (hg : g < w.heap.size) (hb : Below w.heap.size w W) :
    ∀ j u, ((S.take k).map encStr)[j]? = some u → W.cell? ((⟨g, 0, none⟩ : Addr).add j) = some u := by
  intro j u hu
  rw [List.getElem?_map] at hu
  obtain ⟨s, hs, rfl⟩ := Option.map_eq_some_iff.1 hu
  obtain ⟨hj, rfl⟩ := List.getElem?_eq_some_iff.1 hs
  have hj' : j < S.length := by simp at hj; omega
  rw [Addr.add_lit, Nat.zero_add, hb.cell (p := ⟨g, j, none⟩) hg, hc j hj']
  simp
theorem drop_cells {w W : World} {g k cap : Nat} {S : List (List UInt8)} (hc : ∀ i (h : i < S.length), w.cell? ⟨g, i, none⟩ = some (encStr S[i])) (hg : g < w.heap.size) (hb : Below w.heap.size w W) (hcap : S.length ≤ cap) {ao : Option Addr}
    (hao : ¬ cap = k → ao = some ⟨g, k, none⟩) : ∀ ad, ao = some ad → ∀ j u, ((S.drop k).map encStr)[j]? = some u → W.cell? (ad.add j) = some u := by
  intro ad had j u hu
  rw [List.getElem?_map] at hu
  obtain ⟨s, hs, rfl⟩ := Option.map_eq_some_iff.1 hu
  obtain ⟨hj, rfl⟩ := List.getElem?_eq_some_iff.1 hs
  have hj' : k + j < S.length := by simp at hj; omega
  rw [hao (by omega)] at had
  obtain rfl := Option.some.inj had
  rw [Addr.add_lit, hb.cell (p := ⟨g, k + j, none⟩) hg, hc (k + j) hj']
  simp
theorem fin_insert {w w4 : World} {g n : Nat} {S : List (List UInt8)} {x : ByteArray} {k : Nat} (hn : n = S.length + 1) (hk : k ≤ S.length)
    (hown : w4.ownsRow w.heap.size 9 1 (.slice (some ⟨g, 0, none⟩) n (S.length + 1)) n ((S.take k).map encStr ++ [.string x] ++ (S.drop k).map encStr)) :
    StrsIn w4 (.slice (some ⟨g, 0, none⟩) n (S.length + 1)) (S.take k ++ [x.data.toList] ++ S.drop k) := by
  have e : (S.take k).map encStr ++ [.string x] ++ (S.drop k).map encStr = (S.take k ++ [x.data.toList] ++ S.drop k).map encStr := by simp
  have e' : (S.take k ++ [x.data.toList] ++ S.drop k).length = n := by simp; omega
  rw [e] at hown
  rw [← e'] at hown ⊢
  exact strsIn_of hown
theorem below_less {t x : ByteArray} {s : List UInt8} (ht : t = ⟨s.toArray⟩) : Op.bytesLess t.toList x.toList = decide (s < x.data.toList) := by
  rw [bytesLess_eq, Lib.toList_data, Lib.toList_data, ht]
theorem same_of {t x : ByteArray} {s : List UInt8} (ht : t = ⟨s.toArray⟩) : (t.toList == x.toList) = (s == x.data.toList) := by
  rw [Lib.toList_data, Lib.toList_data, ht]

/-- WHAT withInserted HANDS BACK. -/
def InsPost (S : List (List UInt8)) (x : ByteArray) (w : World) (e : Ending) (w' : World) : Prop :=
  ∃ v T, e = .returned v ∧ (T.Pairwise (· < ·) ∧ ∀ y, y ∈ T ↔ y = x.data.toList ∨ y ∈ S) ∧ StrsIn w' v T ∧ Below w.heap.size w w'
theorem InsPost.mk {S : List (List UInt8)} {x : ByteArray} {w : World} {e : Ending} {w' : World} (v : Value) (T : List (List UInt8)) (he : e = .returned v) (hT : T.Pairwise (· < ·) ∧ ∀ y, y ∈ T ↔ y = x.data.toList ∨ y ∈ S) (hs : StrsIn w' v T) (hb : Below w.heap.size w w') : InsPost S x w e w' :=
  ⟨v, T, he, hT, hs, hb⟩

set_option maxHeartbeats 1000000 in
theorem insert_some (g cap : Nat) (S : List (List UInt8)) (x : ByteArray) (w : World) (hS : S.Pairwise (· < ·)) (hl : S.length ≤ 8192) (hcap : S.length ≤ cap) (hcm : cap ≤ maxLen) (hg : g < w.heap.size)
    (hc : ∀ i (h : i < S.length), w.cell? ⟨g, i, none⟩ = some (encStr S[i])) :
    Calls Try.prog 10 #[.slice (some ⟨g, 0, none⟩) S.length cap, .string x] w fun e w' => InsPost S x w e w' := by
  unfold maxLen at hcm
  obtain ⟨i0, hi, hz0, hz1, hz2⟩ := info_parts info9
  go_enter Try.func10, Try.ntmps10
  go_wp2
  go_loop [5] (fun i => ∃ k : Nat, k ≤ S.length ∧ i = .int .i64 k ∧ Hid (∀ y ∈ S.take k, y < x.data.toList)) (fun i => S.length - (intOf i).toNat)
  case atStart => exact ⟨0, Nat.zero_le _, rfl, (by intro y hy; simp at hy)⟩
  case round =>
    obtain ⟨k, hk, rfl, HB⟩ := hrel
    have HC : Hid (∀ i (h : i < S.length), w.cell? ⟨g, i, none⟩ = some (encStr S[i])) := hc
    by_cases hlt : k < S.length
    · have c0 := hc k hlt
      obtain ⟨t, ht⟩ : ∃ t : ByteArray, t = ⟨S[k].toArray⟩ := ⟨_, rfl⟩
      have c0' : w.cell? ⟨g, k, none⟩ = some (.string t) := by rw [ht]; exact c0
      have HT : Hid (t = ⟨S[k].toArray⟩) := ht
      clear ht c0 hc
      by_cases hb : Op.bytesLess t.toList x.toList = true
      · have HN : Hid (∀ y ∈ S.take (k + 1), y < x.data.toList) := by
          intro y hy
          rw [List.take_succ_eq_append_getElem hlt] at hy
          rcases List.mem_append.1 hy with h | h
          · exact HB.out y h
          · simp at h
            subst h
            rw [below_less HT.out] at hb
            simpa using hb
        go_wp2
        go_round
        case rel => exact ⟨k + 1, by omega, by go_num, HN⟩
        case measure => simp [intOf]; omega
      · have hb' : Op.bytesLess t.toList x.toList = false := by simpa using hb
        clear hb
        by_cases he : t.toList = x.toList
        · have he' : (t.toList == x.toList) = true := by simpa using he
          have HX : Hid (x.data.toList ∈ S) := by
            rw [same_of HT.out] at he'
            rw [← of_decide_eq_true (by simpa using he' : decide (S[k] = x.data.toList) = true)]
            exact List.getElem_mem hlt
          clear he
          go_wp2
          go_ret
          refine InsPost.mk _ S rfl ⟨hS, fun y => ⟨Or.inr, ?_⟩⟩ ⟨_, cap, rfl, Or.inr ⟨g, rfl, hg, HC.out⟩⟩ (Below.refl _ _)
          rintro (rfl | h)
          · exact HX.out
          · exact h
        · have he' : (t.toList == x.toList) = false := by simpa using he
          have HK : Hid (∀ h : k < S.length, x.data.toList < S[k]) := fun h => by
            rw [below_less HT.out] at hb'
            rw [same_of HT.out] at he'
            exact lt_of_not (by simpa using hb') (by simpa using he')
          clear he
          go_wp2_with (first
            | (at_make; refine wpList_make_own _ rfl _ _ 27 rfl w.heap.size 9 i0 (.string ⟨#[]⟩) 1 Try.underlying27 hi hz0 hz1 .i64 .i64 _ (S.length + 1) rfl rfl (by omega) (by rw [hz2]; omega) (by unfold maxLen; omega) (Nat.le_refl _) ?_; intro w1 hown1 hgrow1; have hb1 := (Below.refl w.heap.size w).grown hgrow1 (Nat.le_refl _) (fun j hj => by cases hj))
            | (at_builtin; refine wpList_append_fits _ rfl (.tmp 38) (.tmp 41) 27 rfl w.heap.size 9 i0 1 Try.underlying27 hi hz1 w.heap.size 0 (S.length + 1) [] rfl hown1 ⟨g, 0, none⟩ k cap ((S.take k).map encStr) rfl (by simp; omega) (take_cells HC.out hg hb1) (strs_oneCell _) (by omega) ?_; intro w2 hown2 hgrow2; simp only [Nat.zero_add, List.nil_append] at hown2; have hb2 := hb1.grown hgrow2 hb1.size (fun j hj => by cases hj; exact Nat.le_refl _); have hs2 := hb2.size)
            | (at_builtin; refine wpList_append_fits _ rfl (.tmp 43) (.tmp 45) 27 rfl w.heap.size 9 i0 1 Try.underlying27 hi hz1 w.heap.size k (S.length + 1) _ rfl (hown2.alloc _) ⟨w2.heap.size, 0, none⟩ 1 1 [.string x] rfl rfl (cell_one_new _ _ _) (by intro u hu; simp at hu; subst hu; rfl) (by omega) ?_; intro w3 hown3 hgrow3; have hb3 := (hb2.alloc hb2.size _).grown hgrow3 (by simp; omega) (fun j hj => by cases hj; exact Nat.le_refl _); have hs3 := hb3.size)
            | (at_builtin; refine wpList_append_fits_any _ rfl (.tmp 47) (.tmp 50) 27 rfl w.heap.size 9 i0 1 Try.underlying27 hi hz1 w.heap.size (k + 1) (S.length + 1) _ rfl hown3 _ (S.length - k) (cap - k) ((S.drop k).map encStr) rfl (by simp) (by intro h; first | (split at h <;> cases h) | cases h) (drop_cells HC.out hg hb3 hcap (by intro h; first | rfl | simp [h])) (strs_oneCell _) (by omega) ?_; intro w4 hown4 hgrow4; have hb4 := hb3.grown hgrow4 hb3.size (fun j hj => by cases hj; exact Nat.le_refl _)))
          go_ret
          exact InsPost.mk _ _ rfl (insert_rising hS HB.out HK.out) (fin_insert (by omega) hk hown4) hb4
    · obtain rfl : k = S.length := by omega
      have HK : Hid (∀ h : S.length < S.length, x.data.toList < S[S.length]) := fun h => absurd h (Nat.lt_irrefl _)
      by_cases hck : cap = S.length
      · subst hck
        go_wp2_with (first
          | (at_make; (refine wpList_make_own _ rfl _ _ 27 rfl w.heap.size 9 i0 (.string ⟨#[]⟩) 1 Try.underlying27 hi hz0 hz1 .i64 .i64 _ (S.length + 1) rfl rfl (by omega) (by rw [hz2]; omega) (by unfold maxLen; omega) (Nat.le_refl _) ?_); intro w1 hown1 hgrow1; have hb1 := (Below.refl w.heap.size w).grown hgrow1 (Nat.le_refl _) (fun j hj => by cases hj))
          | (at_builtin; (refine wpList_append_fits _ rfl (.tmp 38) (.tmp 41) 27 rfl w.heap.size 9 i0 1 Try.underlying27 hi hz1 w.heap.size 0 (S.length + 1) [] rfl hown1 ⟨g, 0, none⟩ S.length S.length ((S.take S.length).map encStr) rfl (by simp) (take_cells HC.out hg hb1) (strs_oneCell _) (by omega) ?_); intro w2 hown2 hgrow2; simp only [Nat.zero_add, List.nil_append] at hown2; have hb2 := hb1.grown hgrow2 hb1.size (fun j hj => by cases hj; exact Nat.le_refl _); have hs2 := hb2.size)
          | (at_builtin; (refine wpList_append_fits _ rfl (.tmp 43) (.tmp 45) 27 rfl w.heap.size 9 i0 1 Try.underlying27 hi hz1 w.heap.size S.length (S.length + 1) _ rfl (hown2.alloc _) ⟨w2.heap.size, 0, none⟩ 1 1 [.string x] rfl rfl (cell_one_new _ _ _) (by intro u hu; simp at hu; subst hu; rfl) (by omega) ?_); intro w3 hown3 hgrow3; have hb3 := (hb2.alloc hb2.size _).grown hgrow3 (by simp; omega) (fun j hj => by cases hj; exact Nat.le_refl _); have hs3 := hb3.size)
          | (at_builtin; (refine wpList_append_fits_any _ rfl (.tmp 47) (.tmp 50) 27 rfl w.heap.size 9 i0 1 Try.underlying27 hi hz1 w.heap.size (S.length + 1) (S.length + 1) _ rfl hown3 _ _ _ ((S.drop S.length).map encStr) rfl (by simp) (by intro h; first | (split at h <;> cases h) | cases h) (drop_cells HC.out hg hb3 hcap (fun h => absurd rfl h)) (strs_oneCell _) (by omega) ?_); intro w4 hown4 hgrow4; have hb4 := hb3.grown hgrow4 hb3.size (fun j hj => by cases hj; exact Nat.le_refl _)))
        go_ret
        exact InsPost.mk _ _ rfl (insert_rising hS HB.out HK.out) (fin_insert (by omega) hk hown4) hb4
      · skip
        go_wp2_with (first
          | (at_make; (refine wpList_make_own _ rfl _ _ 27 rfl w.heap.size 9 i0 (.string ⟨#[]⟩) 1 Try.underlying27 hi hz0 hz1 .i64 .i64 _ (S.length + 1) rfl rfl (by omega) (by rw [hz2]; omega) (by unfold maxLen; omega) (Nat.le_refl _) ?_); intro w1 hown1 hgrow1; have hb1 := (Below.refl w.heap.size w).grown hgrow1 (Nat.le_refl _) (fun j hj => by cases hj))
          | (at_builtin; (refine wpList_append_fits _ rfl (.tmp 38) (.tmp 41) 27 rfl w.heap.size 9 i0 1 Try.underlying27 hi hz1 w.heap.size 0 (S.length + 1) [] rfl hown1 ⟨g, 0, none⟩ S.length cap ((S.take S.length).map encStr) rfl (by simp) (take_cells HC.out hg hb1) (strs_oneCell _) (by omega) ?_); intro w2 hown2 hgrow2; simp only [Nat.zero_add, List.nil_append] at hown2; have hb2 := hb1.grown hgrow2 hb1.size (fun j hj => by cases hj; exact Nat.le_refl _); have hs2 := hb2.size)
          | (at_builtin; (refine wpList_append_fits _ rfl (.tmp 43) (.tmp 45) 27 rfl w.heap.size 9 i0 1 Try.underlying27 hi hz1 w.heap.size S.length (S.length + 1) _ rfl (hown2.alloc _) ⟨w2.heap.size, 0, none⟩ 1 1 [.string x] rfl rfl (cell_one_new _ _ _) (by intro u hu; simp at hu; subst hu; rfl) (by omega) ?_); intro w3 hown3 hgrow3; have hb3 := (hb2.alloc hb2.size _).grown hgrow3 (by simp; omega) (fun j hj => by cases hj; exact Nat.le_refl _); have hs3 := hb3.size)
          | (at_builtin; (refine wpList_append_fits_any _ rfl (.tmp 47) (.tmp 50) 27 rfl w.heap.size 9 i0 1 Try.underlying27 hi hz1 w.heap.size (S.length + 1) (S.length + 1) _ rfl hown3 _ _ _ ((S.drop S.length).map encStr) rfl (by simp) (by intro h; first | (split at h <;> cases h) | cases h) (drop_cells HC.out hg hb3 hcap (by intro h; first | rfl | simp [h])) (strs_oneCell _) (by omega) ?_); intro w4 hown4 hgrow4; have hb4 := hb3.grown hgrow4 hb3.size (fun j hj => by cases hj; exact Nat.le_refl _)))
        go_ret
        exact InsPost.mk _ _ rfl (insert_rising hS HB.out HK.out) (fin_insert (by omega) hk hown4) hb4

set_option maxHeartbeats 1000000 in
theorem insert_nil (x : ByteArray) (w : World) :
    Calls Try.prog 10 #[.slice none 0 0, .string x] w fun e w' => InsPost [] x w e w' := by
  obtain ⟨i0, hi, hz0, hz1, hz2⟩ := info_parts info9
  go_enter Try.func10, Try.ntmps10
  go_wp2
  refine wp_loop_rounds 1 ?_
  rw [rounds_succ]
  go_wp2_with (first
    | (at_make; refine wpList_make_own _ rfl _ _ 27 rfl w.heap.size 9 i0 (.string ⟨#[]⟩) 1 Try.underlying27 hi hz0 hz1 .i64 .i64 _ 1 rfl rfl (by omega) (by rw [hz2]; omega) (by unfold maxLen; omega) (Nat.le_refl _) ?_; intro w1 hown1 hgrow1; have hb1 := (Below.refl w.heap.size w).grown hgrow1 (Nat.le_refl _) (fun j hj => by cases hj))
    | (at_builtin; refine wpList_append_fits_any _ rfl (.tmp 38) (.tmp 41) 27 rfl w.heap.size 9 i0 1 Try.underlying27 hi hz1 w.heap.size 0 1 [] rfl hown1 none 0 0 [] rfl rfl (fun _ => ⟨rfl, rfl⟩) (fun ad h => by cases h) (fun u hu => by simp at hu) (by omega) ?_; intro w2 hown2 hgrow2; simp only [Nat.zero_add, List.nil_append] at hown2; have hb2 := hb1.grown hgrow2 hb1.size (fun j hj => by cases hj; exact Nat.le_refl _); have hs2 := hb2.size)
    | (at_builtin; refine wpList_append_fits _ rfl (.tmp 43) (.tmp 45) 27 rfl w.heap.size 9 i0 1 Try.underlying27 hi hz1 w.heap.size 0 1 _ rfl (hown2.alloc _) ⟨w2.heap.size, 0, none⟩ 1 1 [.string x] rfl rfl (cell_one_new _ _ _) (by intro u hu; simp at hu; subst hu; rfl) (by omega) ?_; intro w3 hown3 hgrow3; simp only [Nat.zero_add, List.nil_append] at hown3; have hb3 := (hb2.alloc hb2.size _).grown hgrow3 (by simp; omega) (fun j hj => by cases hj; exact Nat.le_refl _); have hs3 := hb3.size)
    | (at_builtin; refine wpList_append_fits_any _ rfl (.tmp 47) (.tmp 50) 27 rfl w.heap.size 9 i0 1 Try.underlying27 hi hz1 w.heap.size 1 1 _ rfl hown3 none 0 0 [] rfl rfl (fun _ => ⟨rfl, rfl⟩) (fun ad h => by cases h) (fun u hu => by simp at hu) (by omega) ?_; intro w4 hown4 hgrow4; have hb4 := hb3.grown hgrow4 hb3.size (fun j hj => by cases hj; exact Nat.le_refl _)))
  go_ret
  exact InsPost.mk _ _ rfl (insert_rising (S := []) (k := 0) List.Pairwise.nil (by simp) (fun h => by simp at h)) (fin_insert (S := []) (k := 0) rfl (Nat.le_refl _) (by simpa using hown4)) hb4

theorem insert_any (v : Value) (base : Nat) (S : List (List UInt8)) (x : ByteArray) (w : World) (hS : S.Pairwise (· < ·)) (hl : S.length ≤ 8192) (h : w.ownsRow base 9 1 v S.length (S.map encStr)) :
    Calls Try.prog 10 #[v, .string x] w fun e w' => InsPost S x w e w' := by
  have hs := strsIn_of h
  rcases h.2 with ⟨rfl, h0⟩ | ⟨g, cap, cur, rfl, hb, hg, hn, hcm, _⟩
  · rw [List.length_eq_zero_iff.1 h0]
    exact insert_nil x w
  · refine insert_some g cap S x w hS hl hn hcm (h.lt g rfl).2 fun i hi => ?_
    have := h.cells (g := g) rfl i (encStr S[i]) (by simp [hi])
    rwa [Addr.add_lit, Nat.zero_add] at this

end Go.Proofs.Qxb6612211a
