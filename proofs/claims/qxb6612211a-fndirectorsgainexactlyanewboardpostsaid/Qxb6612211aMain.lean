/-
  THE LAW's WALK. Seat b6612211a.
-/
import Derived.Test.Qxb6612211aInsert
import Derived.Test.Qxb6612211aFits
namespace Go.Proofs.Qxb6612211a
open Go.RowKit Go.Maps Go.Sort Go.Shelf

theorem info24 : (Try.prog.info? 24).map (fun i => (i.zero, i.size, i.bytes)) = some (some (.agg #[.string ⟨#[]⟩, .string ⟨#[]⟩, .string ⟨#[]⟩]), 3, 48) := by kernel_rfl

def rows (L : List Post) : List Value := L.flatMap postCells
theorem rows_length (L : List Post) : (rows L).length = L.length * 3 := by
  induction L with
  | nil => rfl
  | cons p L ih => simp [rows, postCells] at ih ⊢; omega
theorem rows_one (L : List Post) : ∀ u ∈ rows L, u.oneCell' = true := by
  intro u hu
  simp [rows, postCells] at hu
  obtain ⟨p, _, rfl | rfl | rfl⟩ := hu <;> rfl
theorem rows_get (L : List Post) (k j : Nat) (hk : k < L.length) (hj : j < 3) : (rows L)[k * 3 + j]? = (postCells L[k])[j]? := by
  induction L generalizing k with
  | nil => simp at hk
  | cons p L ih =>
    have e : rows (p :: L) = postCells p ++ rows L := rfl
    have hl : (postCells p).length = 3 := rfl
    rw [e]
    cases k with
    | zero => rw [List.getElem?_append_left (by rw [hl]; omega)]; simp
    | succ k =>
      rw [List.getElem?_append_right (by rw [hl]; omega), hl]
      have := ih k (by simpa using hk)
      rw [show (k + 1) * 3 + j - 3 = k * 3 + j by omega, this]
      simp

/-- The cells of the posts that lie at a slice. -/
theorem PostsIn.rows {w : World} {a : Option Addr} {cap n : Nat} {L : List Post} (h : PostsIn w (.slice a n cap) L) : n = L.length ∧ (a = none → L.length = 0 ∧ cap = 0) ∧
    ∀ W, Below w.heap.size w W → ∀ ad, a = some ad → ∀ j u, (Qxb6612211a.rows L)[j]? = some u → W.cell? (ad.add j) = some u := by
  obtain ⟨a', cap', e, hn, h⟩ := h
  simp only [Value.slice.injEq] at e
  obtain ⟨rfl, rfl, rfl⟩ := e
  refine ⟨rfl, fun ha => ⟨?_, hn ha⟩, fun W hb ad had j u hu => ?_⟩
  · rcases h with rfl | ⟨g, off, e, _⟩
    · rfl
    · rw [ha] at e; cases e
  · rcases h with rfl | ⟨g, off, e, hg, hc⟩
    · simp [Qxb6612211a.rows] at hu
    · rw [had] at e
      obtain rfl := Option.some.inj e
      have hjl : j < L.length * 3 := by rw [← rows_length]; exact (List.getElem?_eq_some_iff.1 hu).1
      have hk : j / 3 < L.length := by omega
      have hr := rows_get L (j / 3) (j % 3) hk (Nat.mod_lt _ (by omega))
      rw [show j / 3 * 3 + j % 3 = j by omega, hu] at hr
      rw [Addr.add_lit, hb.cell (p := ⟨g, off + j, none⟩) hg]
      obtain ⟨c0, c1, c2⟩ := hc (j / 3) hk
      have h3 : j % 3 = 0 ∨ j % 3 = 1 ∨ j % 3 = 2 := by omega
      rcases h3 with h3 | h3 | h3
      · rw [h3] at hr
        rw [show off + j = off + j / 3 * 3 by omega, c0, hr]; rfl
      · rw [h3] at hr
        rw [show off + j = off + j / 3 * 3 + 1 by omega, c1, hr]; rfl
      · rw [h3] at hr
        rw [show off + j = off + j / 3 * 3 + 2 by omega, c2, hr]; rfl

theorem postsIn_own {w : World} {base g n cap : Nat} {L : List Post} (hn : n = L.length) (h : w.ownsRow base 24 3 (.slice (some ⟨g, 0, none⟩) n cap) n (rows L)) : PostsIn w (.slice (some ⟨g, 0, none⟩) n cap) L := by
  subst hn
  refine ⟨_, cap, rfl, (fun e => by cases e), Or.inr ⟨g, 0, rfl, (h.lt g rfl).2, fun i hi => ?_⟩⟩
  have key : ∀ j, j < 3 → w.cell? ⟨g, i * 3 + j, none⟩ = (postCells L[i])[j]? := fun j hj => by
    have hl : (postCells L[i]).length = 3 := rfl
    have hu := rows_get L i j hi hj
    rw [List.getElem?_eq_getElem (i := j) (by omega)] at hu ⊢
    have := h.cells (g := g) rfl (i * 3 + j) _ hu
    rwa [Addr.add_lit, Nat.zero_add] at this
  rw [Nat.zero_add]
  exact ⟨key 0 (by omega), key 1 (by omega), key 2 (by omega)⟩

theorem rows_snoc (L : List Post) (x : Post) : rows (L ++ [x]) = rows L ++ postCells x := by simp [rows]
theorem post_one (x : Post) : ∀ u ∈ postCells x, u.oneCell' = true := by
  intro u hu
  simp [postCells] at hu
  rcases hu with rfl | rfl | rfl <;> rfl
theorem news1 (w : World) (cs : Array Value) (t : TypeId) : ∀ j u, cs.toList[j]? = some u → (w.alloc (.cells cs t)).cell? ((⟨w.heap.size, 0, none⟩ : Addr).add j) = some u :=
  World.news_of_block (heap_alloc_new w _)
/-- The box of the parameter 'extra' in a later world. -/
theorem box3 {w W : World} {x y z : Value} {t : TypeId} (hb : Below (w.heap.size + 1) (w.alloc (.cells #[x, y, z] t)) W) :
    W.cell? ⟨w.heap.size, 0, none⟩ = some x ∧ W.cell? ⟨w.heap.size, 1, none⟩ = some y ∧ W.cell? ⟨w.heap.size, 2, none⟩ = some z := by
  obtain ⟨h0, h1, h2⟩ := cells3 (heap_alloc_new w (.cells #[x, y, z] t))
  exact ⟨(hb.cell (p := ⟨w.heap.size, 0, none⟩) (Nat.lt_succ_self _)).trans h0, (hb.cell (p := ⟨w.heap.size, 1, none⟩) (Nat.lt_succ_self _)).trans h1, (hb.cell (p := ⟨w.heap.size, 2, none⟩) (Nat.lt_succ_self _)).trans h2⟩
theorem below_box {w W : World} {o : Obj} (hb : Below (w.heap.size + 1) (w.alloc o) W) : Below w.heap.size w W :=
  ((Below.refl _ _).alloc (Nat.le_refl _) o).trans (hb.mono (Nat.le_succ _))

theorem below3 (w : World) (A B C : Obj) : Below w.heap.size w (((w.alloc A).alloc B).alloc C) :=
  (((Below.refl _ _).alloc (Nat.le_refl _) A).alloc (by simp) B).alloc (by simp; omega) C

theorem ownsRow_below {w w' : World} {base n : Nat} {e : TypeId} {size : Nat} {v : Value} {xs : List Value} (h : w.ownsRow base e size v n xs) (hb : Below w.heap.size w w') : w'.ownsRow base e size v n xs := by
  obtain ⟨hl, hv⟩ := h
  refine ⟨hl, ?_⟩
  rcases hv with hv | ⟨g, cap, cur, e1, hg, hh, rest⟩
  · exact Or.inl hv
  · exact Or.inr ⟨g, cap, cur, e1, hg, (hb.block g (Array.getElem?_eq_some_iff.1 hh).1).trans hh, rest⟩

/-- Directors at the day that ZZnewDay makes in the world w. -/
theorem directors_day (base mb n : Nat) (c : ByteArray) (L : List Post) (w : World) (hsz : ∀ p ∈ L, Small p) (hl : L.length ≤ 8192) (hcs : c.size ≤ maxLen) (hn : n < maxLen) (hG : Groups w base mb n L) :
    Calls Try.prog 8 #[.pointer (some ⟨w.heap.size + 2, 0, none⟩)] (((w.alloc (.cells #[.string c, .slice none 0 0, .slice none 0 0, .map none, .slice none 0 0] 42)).alloc
      (.cells #[.pointer (some ⟨w.heap.size, 0, none⟩), .map none, .map none, .map none, .map (some mb), .map none, .map none, .map none, .map none, .map none] 47)).alloc
      (.cells #[.pointer (some ⟨w.heap.size + 1, 0, none⟩), .int .i32 0, .map none] 53))
      fun e w' => ∃ v S, e = .returned v ∧ Dirs c.data.toList L S ∧ w'.ownsRow w.heap.size 9 1 v S.length (S.map encStr) ∧ Below w.heap.size w w' := by
  refine (directors_any (w.heap.size + 2) (w.heap.size + 1) w.heap.size base mb n c L _ (fun p hp => (hsz p hp).2.1) hl hcs hn ?_ ?_ ?_ ?_ (((hG.alloc _).alloc _).alloc _)).mono ?_
  · go_simp
  · go_simp
  · go_simp
  · go_simp
  · rintro e w' ⟨v, S, he, hD, hr, hb⟩
    exact ⟨v, S, he, hD, ownsRow_base_a hr (by simp; omega), (below3 _ _ _ _).trans (hb.mono (by simp; omega))⟩

theorem StrsIn.cells {W : World} {a : Option Addr} {n cap : Nat} {T : List (List UInt8)} (h : StrsIn W (.slice a n cap) T) : T = [] ∨ ∃ g, a = some ⟨g, 0, none⟩ ∧ g < W.heap.size ∧ ∀ i (h : i < T.length), W.cell? ⟨g, i, none⟩ = some (encStr T[i]) := by
  obtain ⟨a', cap', e, k⟩ := h
  simp only [Value.slice.injEq] at e
  obtain ⟨rfl, _, _⟩ := e
  exact k

/-! ### THE PLAIN LAW -/
theorem gain_no {c : List UInt8} {L : List Post} {x : Post} {S1 S2 : List (List UInt8)} (hx : ¬ (x.a.data.toList = c ∧ boardB x.r = true)) (h1 : Dirs c L S1) (h2 : Dirs c (L ++ [x]) S2) : S2 = S1 := by
  refine rising_unique h2.1 h1.1 fun y => ?_
  rw [h1.2.1 y, h2.2.1 y]
  simp only [List.mem_append, List.mem_singleton]
  constructor
  · rintro ⟨p, hp | rfl, r⟩
    · exact ⟨p, hp, r⟩
    · exact absurd ⟨r.1, r.2.1⟩ hx
  · rintro ⟨p, hp, r⟩
    exact ⟨p, Or.inl hp, r⟩
theorem gain_yes {c : List UInt8} {L : List Post} {x : Post} {S1 S2 T : List (List UInt8)} (ha : x.a.data.toList = c) (hb : boardB x.r = true) (h1 : Dirs c L S1) (h2 : Dirs c (L ++ [x]) S2)
    (hT : T.Pairwise (· < ·) ∧ ∀ y, y ∈ T ↔ y = x.f.data.toList ∨ y ∈ S1) : T = S2 := by
  refine rising_unique hT.1 h2.1 fun y => ?_
  rw [hT.2 y, h1.2.1 y, h2.2.1 y]
  simp only [List.mem_append, List.mem_singleton]
  constructor
  · rintro (rfl | ⟨p, hp, r⟩)
    · exact ⟨x, Or.inr rfl, ha, hb, rfl⟩
    · exact ⟨p, Or.inl hp, r⟩
  · rintro ⟨p, hp | rfl, r⟩
    · exact Or.inr ⟨p, hp, r⟩
    · exact Or.inl r.2.2.symm
theorem at_true {s t : ByteArray} (h : (s.toList == t.toList) = true) : s.data.toList = t.data.toList := by
  rw [Lib.toList_data, Lib.toList_data] at h; simpa using h
theorem at_false {s t : ByteArray} (h : (s.toList == t.toList) = false) : ¬ s.data.toList = t.data.toList := by
  rw [Lib.toList_data, Lib.toList_data] at h; simpa using h

set_option maxHeartbeats 4000000 in
theorem walk (c : ByteArray) (a : Option Addr) (n cap : Nat) (L : List Post) (x : Post) (w : World) (hcz : c.size ≤ maxLen) (hl : L.length ≤ maxLen) (hsz : ∀ p ∈ L, Small p) (hx : Small x) (h : PostsIn w (.slice a n cap) L) :
    Calls Try.prog 3 #[.string c, .slice a n cap, .agg #[.string x.a, .string x.f, .string x.r]] w fun e w' => e = .returned (.bool true) ∧ Below w.heap.size w w' := by
  obtain ⟨hn, hnone, hcells⟩ := h.rows
  subst hn
  obtain ⟨i0, hi, hz0, hz1, hz2⟩ := info_parts info24
  have hbel : ∀ o, Below w.heap.size w (w.alloc o) := fun o => (Below.refl _ _).alloc (Nat.le_refl _) o
  go_enter Try.func3, Try.ntmps3
  go_wp2_with fail
  refine (bytes_any c _ L x _ hl hcz hsz hx (h.below (hbel _))).mono ?_
  rintro e w1 ⟨⟨b, rfl⟩, hb1'⟩
  have hb1 := hb1'.mono (show w.heap.size + 1 ≤ _ by simp)
  clear hb1'
  cases b
  · go_wp2
    go_ret
    exact ⟨rfl, below_box hb1⟩
  unfold maxLen at hl
  by_cases hL : 4096 < L.length
  · go_wp2
    go_ret
    exact ⟨rfl, below_box hb1⟩
  have hs1 := hb1.size
  simp only [World.size_alloc] at hs1
  go_wp2_with (first
    | (at_make; refine wpList_make_own _ rfl _ _ 22 rfl w1.heap.size 24 i0 _ 3 Try.underlying22 hi hz0 hz1 .i64 .i64 _ (L.length + 1) rfl rfl (by omega) (by rw [hz2]; omega) (by unfold maxLen; omega) (Nat.le_refl _) ?_; intro w2 hown2 hgrow2; have hb2 := hb1.grown hgrow2 hs1 (fun j hj => by cases hj))
    | (at_builtin; refine wpList_append_fits_any _ rfl (.tmp 24) (.tmp 25) 22 rfl w1.heap.size 24 i0 3 Try.underlying22 hi hz1 w1.heap.size 0 (L.length + 1) [] rfl hown2 a L.length cap (rows L) rfl (rows_length L) hnone (hcells _ (below_box hb2)) (rows_one L) (by omega) ?_; intro w3 hown3 hgrow3; simp only [Nat.zero_add, List.nil_append] at hown3; have hb3 := hb2.grown hgrow3 (Nat.le_trans hs1 hgrow2.size) (fun j hj => by cases hj; exact hs1); obtain ⟨q0, q1, q2⟩ := box3 hb3)
    | (at_builtin; refine wpList_append_fits _ rfl (.tmp 27) (.tmp 29) 22 rfl w1.heap.size 24 i0 3 Try.underlying22 hi hz1 w1.heap.size L.length (L.length + 1) _ rfl (hown3.alloc _) ⟨w3.heap.size, 0, none⟩ 1 1 (postCells x) rfl rfl (news1 _ _ _) (post_one x) (by omega) ?_; intro w4 hown4 hgrow4; have hb4 := (hb3.alloc (Nat.le_trans hs1 (Nat.le_trans hgrow2.size hgrow3.size)) _).grown hgrow4 (by have h1 := hgrow2.size; have h2 := hgrow3.size; simp; omega) (fun j hj => by cases hj; exact hs1); clear q0 q1 q2))
  have hall4 : PostsIn w4 (.slice (some ⟨w1.heap.size, 0, none⟩) (L.length + 1) (L.length + 1)) (L ++ [x]) := postsIn_own (by simp) (by rw [rows_snoc]; exact hown4)
  have hszA : ∀ p ∈ L ++ [x], Small p := fun p hp => by
    rcases List.mem_append.1 hp with e | e
    · exact hsz p e
    · simp at e; subst e; exact hx
  have hlA : (L ++ [x]).length ≤ 8192 := by simp; omega
  have hs4 : w.heap.size + 1 ≤ w4.heap.size := by have := hb4.size; simpa using this
  have h4 := h.below (below_box hb4)
  clear hown4 hown3 hown2 hgrow2 hgrow3 hgrow4 hb2 hb3 hcells hnone h
  refine (fit_any c _ (L ++ [x]) w4 (by unfold maxLen; omega) hcz hszA hall4).mono ?_
  rintro e w5 ⟨⟨b, rfl⟩, hb5⟩
  have hB5 := hb4.trans (hb5.mono hs4)
  cases b
  · go_wp2
    go_ret
    exact ⟨rfl, below_box hB5⟩
  have h5 := h4.below hb5
  have hall5 := hall4.below hb5
  have hs5 : w.heap.size + 1 ≤ w5.heap.size := Nat.le_trans hs4 hb5.size
  clear h4 hall4 hb4 hb5 hs4
  go_wp2_with fail
  refine (postsAtOf_any _ L w5 (by omega) (fun p hp => (hsz p hp).1) h5).mono ?_
  rintro e w6 ⟨rfl, hG6, hb6⟩
  have hB6 := hB5.trans (hb6.mono hs5)
  have h6 := h5.below hb6
  have hall6 := hall5.below hb6
  have hs6 : w.heap.size + 1 ≤ w6.heap.size := Nat.le_trans hs5 hb6.size
  clear h5 hall5 hb6 hB5
  go_wp2_with fail
  refine (newDay_any _ _ _).mono ?_
  rintro e w' ⟨rfl, rfl⟩
  go_wp2_with fail
  refine (directors_day (w5.heap.size + 1) w5.heap.size L.length c L w6 hsz (by omega) hcz (by unfold maxLen; omega) hG6).mono ?_
  rintro e w8 ⟨v1, S1, he, hD1, hr1, hb8⟩
  have hB8 := hB6.trans (hb8.mono hs6)
  have hall8 := hall6.below hb8
  have hs8 : w.heap.size + 1 ≤ w8.heap.size := Nat.le_trans hs6 hb8.size
  clear hall6 hb8 hB6 h6 hG6
  obtain ⟨a1, cap1, hv1, _⟩ := strsIn_of hr1
  subst hv1
  subst he
  go_wp2_with fail
  refine (postsAtOf_any _ (L ++ [x]) w8 hlA (fun p hp => (hszA p hp).1) hall8).mono ?_
  rintro e w9 ⟨rfl, hG9, hb9⟩
  have hB9 := hB8.trans (hb9.mono hs8)
  have hr1 := ownsRow_below hr1 hb9
  have hs9 : w.heap.size + 1 ≤ w9.heap.size := Nat.le_trans hs8 hb9.size
  clear hall8 hb9 hB8
  go_wp2_with fail
  refine (newDay_any _ _ _).mono ?_
  rintro e w' ⟨rfl, rfl⟩
  go_wp2_with fail
  refine (directors_day (w8.heap.size + 1) w8.heap.size (L ++ [x]).length c (L ++ [x]) w9 hszA hlA hcz (by unfold maxLen; omega) hG9).mono ?_
  rintro e w10 ⟨v2, S2, he, hD2, hr2, hb10⟩
  obtain ⟨a2, cap2, hv2, _⟩ := strsIn_of hr2
  subst hv2
  subst he
  have hB10 := hB9.trans (hb10.mono hs9)
  have hr1 := ownsRow_below hr1 hb10
  clear hB9 hb10 hG9
  have hs10 : w.heap.size + 1 ≤ w10.heap.size := by have := hB10.size; simpa using this
  obtain ⟨q0, q1, q2⟩ := box3 hB10
  have hl1 : S1.length ≤ 8192 := Nat.le_trans hD1.2.2 (by omega)
  have hl2 : S2.length ≤ 8192 := Nat.le_trans hD2.2.2 hlA
  by_cases ha : x.a.toList = c.toList
  · have ha' : (x.a.toList == c.toList) = true := by simpa using ha
    clear ha
    by_cases hb : boardB x.r = true
    · go_wp2_with (go_at_call 9; refine (onBoard_any _ _).mono ?_; rintro e w' ⟨rfl, rfl⟩)
      refine (insert_any _ _ S1 x.f _ hD1.1 hl1 hr1).mono ?_
      rintro e w11 ⟨v3, T, he, hT, hs3, hb11⟩
      have hTS := gain_yes (at_true ha') hb hD1 hD2 hT
      subst hTS
      obtain ⟨a3, cap3, hv3, hk3⟩ := hs3
      subst hv3
      subst he
      have hB11 := hB10.trans (hb11.mono hs10)
      have hs11 := Nat.le_trans hs10 hb11.size
      have hA : StrsIn w11 (.slice a2 T.length cap2) T := (strsIn_of hr2).below hb11
      have hB : StrsIn w11 (.slice a3 T.length cap3) T := ⟨a3, cap3, rfl, hk3⟩
      clear hr1 hr2 hk3 q0 q1 q2 hD1 hD2 hT

      go_wp2
      by_cases hT0 : T.length = 0
      · refine wp_loop_rounds 1 ?_
        rw [rounds_succ]
        go_wp2
        go_ret
        exact ⟨rfl, below_box hB11⟩
      obtain ⟨gA, hgA, hltA, hcA⟩ := hA.cells.resolve_left (fun e => hT0 (by rw [e]; rfl))
      obtain ⟨gB, hgB, hltB, hcB⟩ := hB.cells.resolve_left (fun e => hT0 (by rw [e]; rfl))
      subst hgA
      subst hgB
      clear hT0 hA hB
      go_loopw [66] (fun i wr => ∃ k : Nat, k ≤ T.length ∧ i = .int .i64 k ∧ Below w11.heap.size w11 wr) (fun i _ => T.length - (intOf i).toNat)
      case atStart => exact ⟨0, Nat.zero_le _, rfl, Below.refl _ _⟩
      case round =>
        obtain ⟨k, hk, rfl, hnx⟩ := hrel
        by_cases hlt : k < T.length
        · obtain ⟨t, ht⟩ : ∃ t : ByteArray, t = ⟨T[k].toArray⟩ := ⟨_, rfl⟩
          have cA : wr.cell? ⟨gA, k, none⟩ = some (.string t) := (hnx.cell (p := ⟨gA, k, none⟩) hltA).trans (by rw [ht]; exact hcA k hlt)
          have cB : wr.cell? ⟨gB, k, none⟩ = some (.string t) := (hnx.cell (p := ⟨gB, k, none⟩) hltB).trans (by rw [ht]; exact hcB k hlt)
          clear ht hcA hcB
          go_wp2
          go_region_held3 (fun w' => w'.cell? ⟨gA, k, none⟩ = some (.string t) ∧ w'.cell? ⟨gB, k, none⟩ = some (.string t)) (go_keep) (fail)
          go_wp2
          go_roundw
          case rel => exact ⟨k + 1, by omega, by go_num, hnx.drew⟩
          case measure => simp [intOf]; omega
        · clear hcA hcB
          go_wp2
          go_ret
          exact ⟨rfl, (below_box hB11).trans (hnx.mono (Nat.le_trans (Nat.le_succ _) hs11))⟩
    · have hb' : boardB x.r = false := by simpa using hb
      clear hb
      have hTS := gain_no (fun e => by rw [hb'] at e; cases e.2) hD1 hD2
      subst hTS
      go_wp2_with (go_at_call 9; refine (onBoard_any _ _).mono ?_; rintro e w' ⟨rfl, rfl⟩)
      have hA := strsIn_of hr2
      have hB := strsIn_of hr1
      clear hr1 hr2 q0 q1 q2 hD1 hD2

      go_wp2
      by_cases hT0 : S2.length = 0
      · refine wp_loop_rounds 1 ?_
        rw [rounds_succ]
        go_wp2
        go_ret
        exact ⟨rfl, below_box hB10⟩
      obtain ⟨gA, hgA, hltA, hcA⟩ := hA.cells.resolve_left (fun e => hT0 (by rw [e]; rfl))
      obtain ⟨gB, hgB, hltB, hcB⟩ := hB.cells.resolve_left (fun e => hT0 (by rw [e]; rfl))
      subst hgA
      subst hgB
      clear hT0 hA hB
      go_loopw [66] (fun i wr => ∃ k : Nat, k ≤ S2.length ∧ i = .int .i64 k ∧ Below w'.heap.size w' wr) (fun i _ => S2.length - (intOf i).toNat)
      case atStart => exact ⟨0, Nat.zero_le _, rfl, Below.refl _ _⟩
      case round =>
        obtain ⟨k, hk, rfl, hnx⟩ := hrel
        by_cases hlt : k < S2.length
        · obtain ⟨t, ht⟩ : ∃ t : ByteArray, t = ⟨S2[k].toArray⟩ := ⟨_, rfl⟩
          have cA : wr.cell? ⟨gA, k, none⟩ = some (.string t) := (hnx.cell (p := ⟨gA, k, none⟩) hltA).trans (by rw [ht]; exact hcA k hlt)
          have cB : wr.cell? ⟨gB, k, none⟩ = some (.string t) := (hnx.cell (p := ⟨gB, k, none⟩) hltB).trans (by rw [ht]; exact hcB k hlt)
          clear ht hcA hcB
          go_wp2
          go_region_held3 (fun w' => w'.cell? ⟨gA, k, none⟩ = some (.string t) ∧ w'.cell? ⟨gB, k, none⟩ = some (.string t)) (go_keep) (fail)
          go_wp2
          go_roundw
          case rel => exact ⟨k + 1, by omega, by go_num, hnx.drew⟩
          case measure => simp [intOf]; omega
        · clear hcA hcB
          go_wp2
          go_ret
          exact ⟨rfl, (below_box hB10).trans (hnx.mono (Nat.le_trans (Nat.le_succ _) hs10))⟩
  · have ha' : (x.a.toList == c.toList) = false := by simpa using ha
    clear ha
    have hTS := gain_no (fun e => at_false ha' e.1) hD1 hD2
    subst hTS
    have hA := strsIn_of hr2
    have hB := strsIn_of hr1
    clear hr1 hr2 hD1 hD2

    go_wp2
    by_cases hT0 : S2.length = 0
    · refine wp_loop_rounds 1 ?_
      rw [rounds_succ]
      go_wp2
      go_ret
      exact ⟨rfl, below_box hB10⟩
    obtain ⟨gA, hgA, hltA, hcA⟩ := hA.cells.resolve_left (fun e => hT0 (by rw [e]; rfl))
    obtain ⟨gB, hgB, hltB, hcB⟩ := hB.cells.resolve_left (fun e => hT0 (by rw [e]; rfl))
    subst hgA
    subst hgB
    clear hT0 hA hB
    go_loopw [66] (fun i wr => ∃ k : Nat, k ≤ S2.length ∧ i = .int .i64 k ∧ Below w10.heap.size w10 wr) (fun i _ => S2.length - (intOf i).toNat)
    case atStart => exact ⟨0, Nat.zero_le _, rfl, Below.refl _ _⟩
    case round =>
      obtain ⟨k, hk, rfl, hnx⟩ := hrel
      by_cases hlt : k < S2.length
      · obtain ⟨t, ht⟩ : ∃ t : ByteArray, t = ⟨S2[k].toArray⟩ := ⟨_, rfl⟩
        have cA : wr.cell? ⟨gA, k, none⟩ = some (.string t) := (hnx.cell (p := ⟨gA, k, none⟩) hltA).trans (by rw [ht]; exact hcA k hlt)
        have cB : wr.cell? ⟨gB, k, none⟩ = some (.string t) := (hnx.cell (p := ⟨gB, k, none⟩) hltB).trans (by rw [ht]; exact hcB k hlt)
        clear ht hcA hcB
        go_wp2
        go_region_held3 (fun w' => w'.cell? ⟨gA, k, none⟩ = some (.string t) ∧ w'.cell? ⟨gB, k, none⟩ = some (.string t)) (go_keep) (fail)
        go_wp2
        go_roundw
        case rel => exact ⟨k + 1, by omega, by go_num, hnx.drew⟩
        case measure => simp [intOf]; omega
      · clear hcA hcB
        go_wp2
        go_ret
        exact ⟨rfl, (below_box hB10).trans (hnx.mono (Nat.le_trans (Nat.le_succ _) hs10))⟩

end Go.Proofs.Qxb6612211a
