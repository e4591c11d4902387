/-
  buildUsageRequest. Seat b6612213a.
-/
import Derived.Test.Qxb6612213aUnman
namespace Go.Proofs.Qxb6612213a
open Go.RowKit Go.Maps

/-- An entry of the law's own: its rating group, its requested unit's amounts. -/
structure Ent where
  gp : Option (Nat × Nat)
  g : Int
  rp : Option (Nat × Nat)
  t : Int
  v1 : Int
  v2 : Int
  v3 : Int
  v4 : Int

/-- What an entry leads to lies in memory. -/
def EntOk (w : World) (e : Ent) : Prop :=
  (∀ b o, e.gp = some (b, o) → b < w.heap.size ∧ w.cell? ⟨b, o, none⟩ = some (.int .u32 e.g) ∧ (Lit.int .u32 e.g).wf = true) ∧
  ∀ b o, e.rp = some (b, o) → b < w.heap.size ∧ w.cell? ⟨b, o, none⟩ = some (.int .u32 e.t) ∧ w.cell? ⟨b, o + 1, none⟩ = some (.int .u64 e.v1) ∧ w.cell? ⟨b, o + 2, none⟩ = some (.int .u64 e.v2) ∧ w.cell? ⟨b, o + 3, none⟩ = some (.int .u64 e.v3) ∧ w.cell? ⟨b, o + 4, none⟩ = some (.int .u64 e.v4)

/-- THE ENTRIES L LIE AT THE SLICE v. -/
def EntsIn (w : World) (v : Value) (L : List Ent) : Prop :=
  ∃ a cap, v = .slice a L.length cap ∧ (a = none → cap = 0) ∧ (L = [] ∨ ∃ g off, a = some ⟨g, off, none⟩ ∧ g < w.heap.size ∧
    ∀ i (h : i < L.length), w.cell? ⟨g, off + i * 2, none⟩ = some (ptr L[i].gp) ∧ w.cell? ⟨g, off + i * 2 + 1, none⟩ = some (ptr L[i].rp) ∧ EntOk w L[i])

/-- Has it a group; which; does it ask? -/
def Mu.shape (m : Mu) : Bool × Int × Bool := (m.gp.isSome, m.g, m.rp.isSome)
def Ent.shape (e : Ent) : Bool × Int × Bool := (e.gp.isSome, e.g, e.rp.isSome)

/-- r times the entries. -/
def rep (r : Nat) (L : List Ent) : List Ent := (List.replicate r L).flatten

/-- The empty request's cells. -/
def reqCells : Array Value := #[.string ⟨#[]⟩, .pointer none, .pointer none, .pointer none, .pointer none, .slice none 0 0, .bool false, .string ⟨#[]⟩, .pointer none, .string ⟨#[]⟩]

/-- buildUsageRequest between two rounds: the row of entries lies in block B. -/
structure BInv (w wr : World) (Ms : List Mu) (N cap : Nat) : Prop where
  row : wr.ownsRow (w.heap.size + 1) 51 3 (.slice (some ⟨w.heap.size + 1, 0, none⟩) N cap) N (muRow Ms)
  len : N = Ms.length
  ok : ∀ m ∈ Ms, ∀ b o, m.gp = some (b, o) → w.heap.size + 1 < b ∧ b < wr.heap.size ∧ wr.cell? ⟨b, o, none⟩ = some (.int .u32 m.g) ∧ (Lit.int .u32 m.g).wf = true
  req : wr.heap[w.heap.size]? = some (.cells reqCells 48 (0, 0))
  below : Below w.heap.size w wr

theorem BInv.size {w wr : World} {Ms : List Mu} {N cap : Nat} (h : BInv w wr Ms N cap) : w.heap.size + 1 < wr.heap.size := (h.row.lt _ rfl).2

/-- One entry more. -/
theorem BInv.step {w wr W w3 : World} {Ms : List Mu} {N cap : Nat} {m : Mu} (h : BInv w wr Ms N cap) (hW : Below wr.heap.size wr W) (hg3 : W.grownBy w3 (some (w.heap.size + 1)))
    (hown : w3.ownsRow (w.heap.size + 1) 51 3 (.slice (some ⟨w.heap.size + 1, 0, none⟩) (N + 1) cap) (N + 1) (muRow Ms ++ muCells m))
    (hm : m.gp = none ∨ ∃ b, m.gp = some (b, 0) ∧ wr.heap.size ≤ b ∧ W.heap[b]? = some (.cells #[.int .u32 m.g] 35 (0, 0)) ∧ (Lit.int .u32 m.g).wf = true) : BInv w w3 (Ms ++ [m]) (N + 1) cap := by
  have hs := h.size
  have hWs := hW.size
  have hws := h.below.size
  refine ⟨by rw [muRow_snoc]; exact hown, by simp [h.len], fun m' hm' b o e => ?_, ?_, ?_⟩
  · rcases List.mem_append.1 hm' with hm1 | hm1
    · obtain ⟨h1, h2, h3, h4⟩ := h.ok m' hm1 b o e
      refine ⟨h1, Nat.lt_of_lt_of_le h2 (Nat.le_trans hWs hg3.size), ?_, h4⟩
      rw [hg3.cell_far ⟨b, o, none⟩ (Nat.lt_of_lt_of_le h2 hWs) (by simp; omega), hW.cell (p := ⟨b, o, none⟩) h2]
      exact h3
    · simp at hm1
      subst hm1
      rcases hm with hm | ⟨b', hb, h1, h2, h3⟩
      · rw [hm] at e; cases e
      · rw [hb] at e
        simp only [Option.some.injEq, Prod.mk.injEq] at e
        obtain ⟨rfl, rfl⟩ := e
        have hlt := (Array.getElem?_eq_some_iff.1 h2).1
        refine ⟨by omega, Nat.lt_of_lt_of_le hlt hg3.size, ?_, h3⟩
        rw [hg3.cell_far ⟨b', 0, none⟩ hlt (by simp; omega), cell_of_row W b' 0 _ 35 (0, 0) h2]
        rfl
  · rw [hg3.block w.heap.size (by omega) (by simp), hW.block w.heap.size (by omega)]
    exact h.req
  · exact (h.below.trans (hW.mono hws)).grown hg3 (by omega) (fun j hj => by cases hj; omega)

/-- WHAT buildUsageRequest HANDS BACK. -/
def BuildPost (r : Nat) (L : List Ent) (w : World) (e : Ending) (w' : World) : Prop :=
  ∃ d v Ms, e = .returned (.pointer (some ⟨d, 0, none⟩)) ∧ w'.cell? ⟨d, 5, none⟩ = some v ∧ MusIn w' v Ms ∧ (∀ m ∈ Ms, MuOk w' m) ∧ Ms.map Mu.shape = (rep r L).map Ent.shape ∧ Below w.heap.size w w'

theorem rep_succ (r : Nat) (L : List Ent) : rep (r + 1) L = rep r L ++ L := by
  induction r with
  | zero => simp [rep]
  | succ r ih =>
    have e : rep (r + 1 + 1) L = L ++ rep (r + 1) L := rfl
    have e' : rep (r + 1) L = L ++ rep r L := rfl
    rw [e, ih, ← List.append_assoc, ← e', ih]
theorem rep_length (r : Nat) (L : List Ent) : (rep r L).length = r * L.length := by simp [rep, List.length_flatten]

/-- There is room for one more. -/
theorem fit_of {Ms : List Mu} {L : List Ent} {j k r N P : Nat} (hN : N = Ms.length) (hs : Ms.map Mu.shape = (rep j L ++ L.take k).map Ent.shape) (hj : j < r) (hk : k < L.length) (hP : P = L.length * r) : N + 1 ≤ P := by
  have e := congrArg List.length hs
  simp only [List.length_map, List.length_append, rep_length, List.length_take] at e
  have h1 : (j + 1) * L.length ≤ r * L.length := Nat.mul_le_mul_right _ hj
  rw [hP, Nat.mul_comm L.length r, hN, e]
  have h2 : (j + 1) * L.length = j * L.length + L.length := Nat.succ_mul _ _
  omega
theorem shape_step {Ms : List Mu} {L : List Ent} {j k : Nat} {m : Mu} (hs : Ms.map Mu.shape = (rep j L ++ L.take k).map Ent.shape) (hk : k < L.length) (hm : m.shape = L[k].shape) : (Ms ++ [m]).map Mu.shape = (rep j L ++ L.take (k + 1)).map Ent.shape := by
  rw [List.take_succ_eq_append_getElem hk, ← List.append_assoc, List.map_append, List.map_append, hs]
  simp [hm]

theorem binv_start {w w1 : World} {P : Nat} (hown : w1.ownsRow (w.heap.size + 1) 51 3 (.slice (some ⟨(w.alloc (.cells reqCells 48)).heap.size, 0, none⟩) 0 P) 0 []) (hgrow : (w.alloc (.cells reqCells 48)).grownBy w1 none) : BInv w w1 [] 0 P := by
  have e : (w.alloc (.cells reqCells 48)).heap.size = w.heap.size + 1 := by simp
  rw [e] at hown
  refine ⟨hown, rfl, by simp, ?_, ((Below.refl _ _).alloc (Nat.le_refl _) _).grown hgrow (by simp) (fun j hj => by cases hj)⟩
  rw [hgrow.block w.heap.size (by simp) (by simp)]
  exact heap_alloc_new w _

theorem BInv.req5 {w wr : World} {Ms : List Mu} {N cap : Nat} (h : BInv w wr Ms N cap) : wr.cell? ⟨w.heap.size, 5, none⟩ = some (.slice none 0 0) ∧ wr.frozen? ⟨w.heap.size, 5, none⟩ = false := by
  refine ⟨by rw [cell_of_row wr w.heap.size 5 _ 48 (0, 0) h.req]; rfl, ?_⟩
  simp [World.frozen?, h.req]

/-- The row is stored into the request. -/
theorem BInv.final {w wr : World} {Ms : List Mu} {N cap r : Nat} {L : List Ent} (h : BInv w wr Ms N cap) (hs : Ms.map Mu.shape = (rep r L).map Ent.shape) :
    BuildPost r L w (.returned (.pointer (some ⟨w.heap.size, 0, none⟩))) (wr.setCell ⟨w.heap.size, 5, none⟩ (.slice (some ⟨w.heap.size + 1, 0, none⟩) N cap)) := by
  have hsz := h.size
  have hz : (wr.setCell ⟨w.heap.size, 5, none⟩ (.slice (some ⟨w.heap.size + 1, 0, none⟩) N cap)).heap.size = wr.heap.size := by simp
  have far : ∀ b o, b ≠ w.heap.size → (wr.setCell ⟨w.heap.size, 5, none⟩ (.slice (some ⟨w.heap.size + 1, 0, none⟩) N cap)).cell? ⟨b, o, none⟩ = wr.cell? ⟨b, o, none⟩ := fun b o hb =>
    World.cell?_setCell_other _ _ _ _ (by intro e; simp only [Addr.mk.injEq] at e; exact hb e.1.symm)
  refine ⟨w.heap.size, _, Ms, rfl, World.cell?_setCell_same _ _ _ h.req5.1, ?_, fun m hm b o e => ?_, hs, h.below.setCell (Nat.le_refl _) _⟩
  · have hr := h.row
    rw [h.len] at hr ⊢
    obtain ⟨a, cap', hv, hc⟩ := musIn_own hr
    refine ⟨a, cap', hv, ?_⟩
    simp only [Value.slice.injEq] at hv
    obtain ⟨rfl, _, rfl⟩ := hv
    rcases hc with hc | ⟨g, hg, hlt, hc⟩
    · exact Or.inl hc
    · simp only [Option.some.injEq, Addr.mk.injEq] at hg
      obtain ⟨rfl, _⟩ := hg
      refine Or.inr ⟨w.heap.size + 1, rfl, by rw [← h.len, hz]; omega, fun i hi => ?_⟩
      rw [← h.len, far _ _ (by omega), far _ _ (by omega), far _ _ (by omega)]
      exact hc i hi
  · obtain ⟨h1, h2, h3, h4⟩ := h.ok m hm b o e
    exact ⟨by rw [hz]; exact h2, by rw [far _ _ (by omega)]; exact h3, h4⟩

theorem newsAt (W : World) (cs : Array Value) (t : TypeId) (n : Nat) (hn : W.heap.size = n) : ∀ j u, cs.toList[j]? = some u → (W.alloc (.cells cs t)).cell? ((⟨n, 0, none⟩ : Addr).add j) = some u := by
  subst hn
  exact World.news_of_block (heap_alloc_new W _)
theorem oldBlock (W : World) (o : Obj) (i : Nat) (h : i < W.heap.size) : (W.alloc o).heap[i]? = W.heap[i]? := (World.grownBy_alloc W o none).block i h (by simp)
theorem heap_second (wr : World) (A B : Obj) : ((wr.alloc A).alloc B).heap[wr.heap.size + 1]? = some B := by
  have h := heap_alloc_new (wr.alloc A) B
  have e : (wr.alloc A).heap.size = wr.heap.size + 1 := by simp
  rwa [e] at h

set_option maxHeartbeats 4000000 in
theorem build_some (g off cap r P : Nat) (L : List Ent) (w : World) (hl : L.length ≤ 65536) (hr : r ≤ 2) (hP : P = L.length * r) (hg : g < w.heap.size)
    (hc : ∀ i (h : i < L.length), w.cell? ⟨g, off + i * 2, none⟩ = some (ptr L[i].gp) ∧ w.cell? ⟨g, off + i * 2 + 1, none⟩ = some (ptr L[i].rp) ∧ EntOk w L[i]) :
    Calls Try.prog 7 #[.slice (some ⟨g, off, none⟩) L.length cap, .int .i64 r] w fun e w' => BuildPost r L w e w' := by
  have hne := fun w => Lib.run_eql_slice_nil (P := Try.prog) w 22 27 (some ⟨g, off, none⟩) L.length cap 0 0 Try.underlying22
  have hPi : (L.length : Int) * (r : Int) = (P : Int) := by rw [hP]; simp
  have hPl : P ≤ 131072 := by rw [hP]; exact Nat.le_trans (Nat.mul_le_mul hl hr) (by omega)
  have HP : Hid (P = L.length * r) := hP
  obtain ⟨i0, hi, hz0, hz1, hz2⟩ := info_parts info51
  clear hP
  go_enter Try.func7, Try.ntmps7
  go_wp2_with (at_make; go_must (refine wpList_make_own _ rfl _ _ 44 rfl (w.heap.size + 1) 51 i0 _ 3 Try.underlying44 hi hz0 hz1 .i64 .i64 _ P rfl rfl (by omega) (by rw [hz2]; omega) (by unfold maxLen; omega) (by simp) ?_); intro w1 hown1 hgrow1)
  have hinv0 := binv_start hown1 hgrow1
  clear hown1 hgrow1 hne
  go_loopw [6, 7] (fun v i wr => ∃ (j : Nat) (Ms : List Mu) (N : Nat), j ≤ r ∧ i = .int .i64 j ∧ v = .slice (some ⟨w.heap.size + 1, 0, none⟩) N P ∧ BInv w wr Ms N P ∧ Hid (Ms.map Mu.shape = (rep j L).map Ent.shape)) (fun _ i _ => r - (intOf i).toNat)
  case atStart => exact ⟨0, [], 0, Nat.zero_le _, rfl, rfl, hinv0, rfl⟩
  case round =>
    clear hinv0
    obtain ⟨j, Ms, N, hj, rfl, rfl, hinv, HS⟩ := hrel
    by_cases hjr : j < r
    · go_wp2
      go_loopw [6, 8] (fun v i wr => ∃ (k : Nat) (Ms : List Mu) (N : Nat), k ≤ L.length ∧ i = .int .i64 k ∧ v = .slice (some ⟨w.heap.size + 1, 0, none⟩) N P ∧ BInv w wr Ms N P ∧ Hid (Ms.map Mu.shape = (rep j L ++ L.take k).map Ent.shape)) (fun _ i _ => L.length - (intOf i).toNat)
      case atStart => exact ⟨0, Ms, N, Nat.zero_le _, rfl, rfl, hinv, by show _ = _; simpa using HS.out⟩
      case round =>
        clear hinv HS
        obtain ⟨k, Ms, N, hk, rfl, rfl, hinv, HS⟩ := hrel
        by_cases hk2 : k < L.length
        · obtain ⟨c0, c1, hok⟩ := hc k hk2
          have hnx := hinv.below
          have hsz := hinv.size
          have hgl : g < wr.heap.size := Nat.lt_of_lt_of_le hg hnx.size
          have hfit : N + 1 ≤ P := fit_of hinv.len HS.out hjr hk2 HP.out
          have hc0 := (hnx.cell (p := ⟨g, off + k * 2, none⟩) hg).trans c0
          have hc1 := (hnx.cell (p := ⟨g, off + k * 2 + 1, none⟩) hg).trans c1
          clear c0 c1 hc
          rcases hgp : L[k].gp with _ | ⟨gb, go⟩
          · rcases hrp : L[k].rp with _ | ⟨rb, ro⟩
            · rw [hgp] at hc0; rw [hrp] at hc1
              simp only [ptr] at hc0 hc1
              clear hok
              have hshape : Hid (Mu.shape ⟨none, L[k].g, none⟩ = L[k].shape) := by show _ = _; simp [Mu.shape, Ent.shape, hgp, hrp]
              clear hgp hrp
              go_wp2_with (at_builtin; go_must (refine wpList_append_fits _ rfl (.tmp 73) (.tmp 75) 44 rfl (w.heap.size + 1) 51 i0 3 Try.underlying44 hi hz1 (w.heap.size + 1) N P (muRow Ms) rfl ((hinv.row.alloc _).alloc _) ⟨wr.heap.size + 1, 0, none⟩ 1 1 (muCells ⟨none, L[k].g, none⟩) rfl rfl (newsAt _ _ _ _ (by simp)) (mu_one _) hfit ?_); intro w3 hown3 hgrow3)
              have hfin := hinv.step (m := ⟨none, L[k].g, none⟩) (((Below.refl _ _).alloc (Nat.le_refl _) _).alloc (by simp <;> omega) _) hgrow3 hown3 (Or.inl rfl)
              have hsh := shape_step HS.out hk2 hshape.out
              go_wp2
              go_roundw
              case rel => exact ⟨k + 1, _, N + 1, by omega, by go_num, rfl, hfin, hsh⟩
              case measure => simp [intOf]; omega
            · rw [hgp] at hc0; rw [hrp] at hc1
              simp only [ptr] at hc0 hc1
              obtain ⟨hrb, r0, r1, r2, r3, r4⟩ := hok.2 rb ro hrp
              have r0' := (hnx.cell (p := ⟨rb, ro, none⟩) hrb).trans r0
              have r1' := (hnx.cell (p := ⟨rb, ro + 1, none⟩) hrb).trans r1
              have r2' := (hnx.cell (p := ⟨rb, ro + 2, none⟩) hrb).trans r2
              have r3' := (hnx.cell (p := ⟨rb, ro + 3, none⟩) hrb).trans r3
              have r4' := (hnx.cell (p := ⟨rb, ro + 4, none⟩) hrb).trans r4
              have hrs : rb < wr.heap.size := Nat.lt_of_lt_of_le hrb hnx.size
              clear hok r0 r1 r2 r3 r4
              have hshape : Hid (Mu.shape ⟨none, L[k].g, some (wr.heap.size + 2, 0)⟩ = L[k].shape) := by show _ = _; simp [Mu.shape, Ent.shape, hgp, hrp]
              clear hgp hrp
              go_wp2_with (at_builtin; go_must (refine wpList_append_fits _ rfl (.tmp 73) (.tmp 75) 44 rfl (w.heap.size + 1) 51 i0 3 Try.underlying44 hi hz1 (w.heap.size + 1) N P (muRow Ms) rfl ((((hinv.row.alloc _).alloc _).alloc _).alloc _) ⟨wr.heap.size + 3, 0, none⟩ 1 1 (muCells ⟨none, L[k].g, some (wr.heap.size + 2, 0)⟩) rfl rfl (newsAt _ _ _ _ (by simp)) (mu_one _) hfit ?_); intro w3 hown3 hgrow3)
              have hfin := hinv.step (m := ⟨none, L[k].g, some (wr.heap.size + 2, 0)⟩) (((((Below.refl _ _).alloc (Nat.le_refl _) _).alloc (by simp <;> omega) _).alloc (by simp <;> omega) _).alloc (by simp <;> omega) _) hgrow3 hown3 (Or.inl rfl)
              have hsh := shape_step HS.out hk2 hshape.out
              go_wp2
              go_roundw
              case rel => exact ⟨k + 1, _, N + 1, by omega, by go_num, rfl, hfin, hsh⟩
              case measure => simp [intOf]; omega
          · obtain ⟨hgb, hgc, hgw⟩ := hok.1 gb go hgp
            have hgc' := (hnx.cell (p := ⟨gb, go, none⟩) hgb).trans hgc
            have hgs : gb < wr.heap.size := Nat.lt_of_lt_of_le hgb hnx.size
            clear hgc
            rcases hrp : L[k].rp with _ | ⟨rb, ro⟩
            · rw [hgp] at hc0; rw [hrp] at hc1
              simp only [ptr] at hc0 hc1
              clear hok
              have hshape : Hid (Mu.shape ⟨some (wr.heap.size + 1, 0), L[k].g, none⟩ = L[k].shape) := by show _ = _; simp [Mu.shape, Ent.shape, hgp, hrp]
              clear hgp hrp
              go_wp2_with (at_builtin; go_must (refine wpList_append_fits _ rfl (.tmp 73) (.tmp 75) 44 rfl (w.heap.size + 1) 51 i0 3 Try.underlying44 hi hz1 (w.heap.size + 1) N P (muRow Ms) rfl (((hinv.row.alloc _).alloc _).alloc _) ⟨wr.heap.size + 2, 0, none⟩ 1 1 (muCells ⟨some (wr.heap.size + 1, 0), L[k].g, none⟩) rfl rfl (newsAt _ _ _ _ (by simp)) (mu_one _) hfit ?_); intro w3 hown3 hgrow3)
              have hfin := hinv.step (m := ⟨some (wr.heap.size + 1, 0), L[k].g, none⟩) ((((Below.refl _ _).alloc (Nat.le_refl _) _).alloc (by simp <;> omega) _).alloc (by simp <;> omega) _) hgrow3 hown3 (Or.inr ⟨_, rfl, Nat.le_succ _, ((oldBlock _ _ _ (by simp <;> omega)).trans (heap_second _ _ _)), hgw⟩)
              have hsh := shape_step HS.out hk2 hshape.out
              go_wp2
              go_roundw
              case rel => exact ⟨k + 1, _, N + 1, by omega, by go_num, rfl, hfin, hsh⟩
              case measure => simp [intOf]; omega
            · rw [hgp] at hc0; rw [hrp] at hc1
              simp only [ptr] at hc0 hc1
              obtain ⟨hrb, r0, r1, r2, r3, r4⟩ := hok.2 rb ro hrp
              have r0' := (hnx.cell (p := ⟨rb, ro, none⟩) hrb).trans r0
              have r1' := (hnx.cell (p := ⟨rb, ro + 1, none⟩) hrb).trans r1
              have r2' := (hnx.cell (p := ⟨rb, ro + 2, none⟩) hrb).trans r2
              have r3' := (hnx.cell (p := ⟨rb, ro + 3, none⟩) hrb).trans r3
              have r4' := (hnx.cell (p := ⟨rb, ro + 4, none⟩) hrb).trans r4
              have hrs : rb < wr.heap.size := Nat.lt_of_lt_of_le hrb hnx.size
              clear hok r0 r1 r2 r3 r4
              have hshape : Hid (Mu.shape ⟨some (wr.heap.size + 1, 0), L[k].g, some (wr.heap.size + 3, 0)⟩ = L[k].shape) := by show _ = _; simp [Mu.shape, Ent.shape, hgp, hrp]
              clear hgp hrp
              go_wp2_with (at_builtin; go_must (refine wpList_append_fits _ rfl (.tmp 73) (.tmp 75) 44 rfl (w.heap.size + 1) 51 i0 3 Try.underlying44 hi hz1 (w.heap.size + 1) N P (muRow Ms) rfl (((((hinv.row.alloc _).alloc _).alloc _).alloc _).alloc _) ⟨wr.heap.size + 4, 0, none⟩ 1 1 (muCells ⟨some (wr.heap.size + 1, 0), L[k].g, some (wr.heap.size + 3, 0)⟩) rfl rfl (newsAt _ _ _ _ (by simp)) (mu_one _) hfit ?_); intro w3 hown3 hgrow3)
              have hfin := hinv.step (m := ⟨some (wr.heap.size + 1, 0), L[k].g, some (wr.heap.size + 3, 0)⟩) ((((((Below.refl _ _).alloc (Nat.le_refl _) _).alloc (by simp <;> omega) _).alloc (by simp <;> omega) _).alloc (by simp <;> omega) _).alloc (by simp <;> omega) _) hgrow3 hown3 (Or.inr ⟨_, rfl, Nat.le_succ _, ((oldBlock _ _ _ (by simp <;> omega)).trans (((oldBlock _ _ _ (by simp <;> omega)).trans (((oldBlock _ _ _ (by simp <;> omega)).trans (heap_second _ _ _)))))), hgw⟩)
              have hsh := shape_step HS.out hk2 hshape.out
              go_wp2
              go_roundw
              case rel => exact ⟨k + 1, _, N + 1, by omega, by go_num, rfl, hfin, hsh⟩
              case measure => simp [intOf]; omega
        · obtain rfl : k = L.length := by omega
          have hsh : Hid (Ms.map Mu.shape = (rep (j + 1) L).map Ent.shape) := by
            show _ = _
            rw [rep_succ]
            simpa using HS.out
          clear hc HS
          go_wp2
          go_roundw
          case rel => exact ⟨j + 1, Ms, N, by omega, by go_num, rfl, hinv, hsh⟩
          case measure => simp [intOf]; omega
    · obtain rfl : j = r := by omega
      obtain ⟨q5, f5⟩ := hinv.req5
      clear hc
      go_wp2
      go_ret
      exact hinv.final HS.out

end Go.Proofs.Qxb6612213a
