/-
  The two tests of size: zzBytes_.. and postsFit: each answers some bool and writes nothing that was there. Seat b6612211a.
-/
import Derived.Test.Qxb6612211aPostsAt
namespace Go.Proofs.Qxb6612211a
open Go.RowKit Go.Maps Go.Sort Go.Shelf

/-- It answers some bool. -/
def SomeBool (e : Ending) : Prop := ∃ b, e = .returned (.bool b)

set_option maxHeartbeats 1000000 in
theorem bytes_some (c : ByteArray) (g off cap : Nat) (L : List Post) (x : Post) (w : World) (hl : L.length ≤ maxLen) (hcz : c.size ≤ maxLen) (hsz : ∀ p ∈ L, p.a.size ≤ maxLen ∧ p.f.size ≤ maxLen ∧ p.r.size ≤ maxLen) (hx : x.a.size ≤ maxLen ∧ x.f.size ≤ maxLen ∧ x.r.size ≤ maxLen)
    (hc : ∀ i (h : i < L.length), w.cell? ⟨g, off + i * 3, none⟩ = some (.string L[i].a) ∧ w.cell? ⟨g, off + i * 3 + 1, none⟩ = some (.string L[i].f) ∧ w.cell? ⟨g, off + i * 3 + 2, none⟩ = some (.string L[i].r))
    (hg : g < w.heap.size) :
    Calls Try.prog 4 #[.string c, .slice (some ⟨g, off, none⟩) L.length cap, .agg #[.string x.a, .string x.f, .string x.r]] w fun e w' => SomeBool e ∧ Below w.heap.size w w' := by
  obtain ⟨hxa, hxf, hxr⟩ := hx
  unfold maxLen at hl hcz hsz hxa hxf hxr
  have hbel : ∀ o, Below w.heap.size w (w.alloc o) := fun o => (Below.refl _ _).alloc (Nat.le_refl _) o
  go_enter Try.func4, Try.ntmps4
  go_wp2
  all_goals first | (go_ret; exact ⟨⟨_, rfl⟩, hbel _⟩) | skip
  go_loop [7, 8] (fun n i => ∃ k m : Nat, k ≤ L.length ∧ i = .int .i64 k ∧ n = .int .i64 m ∧ m ≤ 1048576) (fun _ i => L.length - (intOf i).toNat)
  case atStart => exact ⟨0, c.size + L.length, Nat.zero_le _, rfl, by go_num, by omega⟩
  case round =>
    obtain ⟨k, m, hk, rfl, rfl, hm⟩ := hrel
    by_cases hlt : k < L.length
    · obtain ⟨c0, c1, c2⟩ := hc k hlt
      obtain ⟨s0, s1, s2⟩ := hsz L[k] (List.getElem_mem hlt)
      clear hc hsz
      go_wp2
      all_goals first | (go_ret; exact ⟨⟨_, rfl⟩, hbel _⟩) | skip
      go_round
      case rel => exact ⟨k + 1, m + L[k].a.size + L[k].f.size + L[k].r.size, by omega, by go_num, by go_num, by omega⟩
      case measure => simp [intOf]; omega
    · clear hc hsz
      go_wp2
      all_goals (go_ret; exact ⟨⟨_, rfl⟩, hbel _⟩)

set_option maxHeartbeats 1000000 in
theorem bytes_none (c : ByteArray) (a : Option Addr) (cap : Nat) (x : Post) (w : World) (hcz : c.size ≤ maxLen) (hx : x.a.size ≤ maxLen ∧ x.f.size ≤ maxLen ∧ x.r.size ≤ maxLen) :
    Calls Try.prog 4 #[.string c, .slice a 0 cap, .agg #[.string x.a, .string x.f, .string x.r]] w fun e w' => SomeBool e ∧ Below w.heap.size w w' := by
  obtain ⟨hxa, hxf, hxr⟩ := hx
  unfold maxLen at hcz hxa hxf hxr
  have hbel : ∀ o, Below w.heap.size w (w.alloc o) := fun o => (Below.refl _ _).alloc (Nat.le_refl _) o
  go_enter Try.func4, Try.ntmps4
  go_wp2
  all_goals first | (go_ret; exact ⟨⟨_, rfl⟩, hbel _⟩) | skip
  refine wp_loop_rounds 1 ?_
  rw [rounds_succ]
  go_wp2
  all_goals (go_ret; exact ⟨⟨_, rfl⟩, hbel _⟩)

/-- A post's three strings are strings of Go's. -/
def Small (p : Post) : Prop := p.a.size ≤ maxLen ∧ p.f.size ≤ maxLen ∧ p.r.size ≤ maxLen

theorem bytes_any (c : ByteArray) (v : Value) (L : List Post) (x : Post) (w : World) (hl : L.length ≤ maxLen) (hcz : c.size ≤ maxLen) (hsz : ∀ p ∈ L, Small p) (hx : Small x) (h : PostsIn w v L) :
    Calls Try.prog 4 #[.string c, v, .agg #[.string x.a, .string x.f, .string x.r]] w fun e w' => SomeBool e ∧ Below w.heap.size w w' := by
  obtain ⟨a, cap, rfl, _, h⟩ := h
  rcases h with rfl | ⟨g, off, rfl, hg, hc⟩
  · exact bytes_none c a cap x w hcz hx
  · exact bytes_some c g off cap L x w hl hcz hsz hx hc hg

set_option maxHeartbeats 1000000 in
theorem fit_some (c : ByteArray) (g off cap : Nat) (L : List Post) (w : World) (hl : L.length ≤ maxLen) (hcz : c.size ≤ maxLen) (hsz : ∀ p ∈ L, Small p)
    (hc : ∀ i (h : i < L.length), w.cell? ⟨g, off + i * 3, none⟩ = some (.string L[i].a) ∧ w.cell? ⟨g, off + i * 3 + 1, none⟩ = some (.string L[i].f) ∧ w.cell? ⟨g, off + i * 3 + 2, none⟩ = some (.string L[i].r))
    (hg : g < w.heap.size) :
    Calls Try.prog 5 #[.string c, .slice (some ⟨g, off, none⟩) L.length cap] w fun e w' => SomeBool e ∧ Below w.heap.size w w' := by
  unfold maxLen at hl hcz
  by_cases h1 : 1048576 < c.size
  · go_enter Try.func5, Try.ntmps5
    go_wp2
    go_ret
    exact ⟨⟨_, rfl⟩, Below.refl _ _⟩
  by_cases h2 : 4097 < L.length
  · go_enter Try.func5, Try.ntmps5
    go_wp2
    go_ret
    exact ⟨⟨_, rfl⟩, Below.refl _ _⟩
  go_enter Try.func5, Try.ntmps5
  go_wp2
  go_loopw [5, 24] (fun n i wr => ∃ k m : Nat, k ≤ L.length ∧ i = .int .i64 k ∧ n = .int .i64 m ∧ m ≤ 1300000 ∧ Below w.heap.size w wr) (fun _ i _ => L.length - (intOf i).toNat)
  case atStart => exact ⟨0, c.size + 48 * L.length, Nat.zero_le _, rfl, by go_num, by omega, Below.refl _ _⟩
  case round =>
    obtain ⟨k, m, hk, rfl, rfl, hm, hnx⟩ := hrel
    by_cases hlt : k < L.length
    · obtain ⟨c0, c1, c2⟩ := hc k hlt
      have hc0 := (hnx.cell (p := ⟨g, off + k * 3, none⟩) hg).trans c0
      have hc1 := (hnx.cell (p := ⟨g, off + k * 3 + 1, none⟩) hg).trans c1
      have hc2 := (hnx.cell (p := ⟨g, off + k * 3 + 2, none⟩) hg).trans c2
      obtain ⟨s0, s1, s2⟩ := hsz L[k] (List.getElem_mem hlt)
      unfold maxLen at s0 s1 s2
      clear hc hsz c0 c1 c2
      go_wp2
      all_goals first | (go_ret; exact ⟨⟨_, rfl⟩, hnx.alloc hnx.size _⟩) | skip
      go_roundw
      case rel => exact ⟨k + 1, m + (L[k].a.size + L[k].f.size + L[k].r.size), by omega, by go_num, by go_num, by omega, hnx.alloc hnx.size _⟩
      case measure => simp [intOf]; omega
    · clear hc hsz
      go_wp2
      all_goals (go_ret; exact ⟨⟨_, rfl⟩, hnx⟩)

theorem fit_none (c : ByteArray) (a : Option Addr) (cap : Nat) (w : World) (hcz : c.size ≤ maxLen) :
    Calls Try.prog 5 #[.string c, .slice a 0 cap] w fun e w' => SomeBool e ∧ Below w.heap.size w w' := by
  unfold maxLen at hcz
  by_cases h1 : 1048576 < c.size
  · go_enter Try.func5, Try.ntmps5
    go_wp2
    go_ret
    exact ⟨⟨_, rfl⟩, Below.refl _ _⟩
  go_enter Try.func5, Try.ntmps5
  go_wp2
  refine wp_loop_rounds 1 ?_
  rw [rounds_succ]
  go_wp2
  all_goals (go_ret; exact ⟨⟨_, rfl⟩, Below.refl _ _⟩)

theorem fit_any (c : ByteArray) (v : Value) (L : List Post) (w : World) (hl : L.length ≤ maxLen) (hcz : c.size ≤ maxLen) (hsz : ∀ p ∈ L, Small p) (h : PostsIn w v L) :
    Calls Try.prog 5 #[.string c, v] w fun e w' => SomeBool e ∧ Below w.heap.size w w' := by
  obtain ⟨a, cap, rfl, _, h⟩ := h
  rcases h with rfl | ⟨g, off, rfl, hg, hc⟩
  · exact fit_none c a cap w hcz
  · exact fit_some c g off cap L w hl hcz hsz hc hg

end Go.Proofs.Qxb6612211a
