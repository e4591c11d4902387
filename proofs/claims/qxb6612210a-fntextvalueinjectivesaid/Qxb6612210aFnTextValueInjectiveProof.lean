/-
  THE PROOF OF 'Rows.FnTextValueInjectiveSaid': the law returns true at every two strings, and the strings read as before.
  The frame ('lifted', 'over') is the one that the kit's tool wrote for this function; the walks are this seat's own.
-/
import Derived.Test.Qxb6612210aRows
import Derived.WalkKit
import Derived.ProofKit
import Derived.OpenShut
import Derived.ShutString
import Derived.Laws.StructEq
import Derived.WalkLawsBesides
namespace Go.Proofs.Qxb6612210a.fnTextValueInjective
open Go.ChangeShapes Go.WideShapes Go.ChangeAt Go.RowKit
open Go.ChangeMaps (open_string shut_string)
set_option linter.unusedVariables false    

theorem own : ownKnob Try.prog.godebug = none := by kernel_rfl


/-! ### THE PROGRAM's OWN FACTS -/
theorem build_null (w : World) : (Instr.build 25 #[]).run Try.prog w = .ok (.agg #[.int .u8 0, .int .i64 0, .string ByteArray.empty]) w := run_build w 25 _ _ (by kernel_rfl)
theorem build_text (s : ByteArray) (w : World) : (Instr.build 25 #[(0, .int .u8 2), (2, .string s)]).run Try.prog w = .ok (.agg #[.int .u8 2, .int .i64 0, .string s]) w := run_build w 25 _ _ (by kernel_rfl)
theorem eq25 (k k' n n' : Int) (s t : ByteArray) (w : World) : (Op.equalIn 10000 25 (.agg #[.int .u8 k, .int .i64 n, .string s]) (.agg #[.int .u8 k', .int .i64 n', .string t])).run Try.prog w = .ok (k == k' && n == n' && s.toList == t.toList) w := by
  have hS : Try.prog.underlying 25 = some (.struct (Try.prog.fieldsOf 25)) := by kernel_rfl
  have hp : Try.prog.stoodInHeld 25 = false := by kernel_rfl
  rw [show (10000 : Nat) = 9999 + 1 from rfl, run_equalIn_agg w 9999 25 _ _ hS hp]
  simp only [Program.fieldsOf, Try.underlying25]
  go_simp
  by_cases h1 : k = k' <;> by_cases h2 : n = n' <;> by_cases h3 : s.toList = t.toList <;> simp [h1, h2, h3]
theorem bytes_yes (a b : ByteArray) (h : a.size + b.size ≤ 1048576) (w : World) :
    Calls Try.prog 11 #[.string a, .string b] w fun e w' => e = .returned (.bool true) ∧ w' = w := by
  go_enter Try.func11, Try.ntmps11
  go_wp2
  go_ret
  exact ⟨rfl, rfl⟩
theorem bytes_no (a b : ByteArray) (w0 : a.size ≤ maxLen) (w1 : b.size ≤ maxLen) (h : 1048576 < a.size + b.size) (w : World) :
    Calls Try.prog 11 #[.string a, .string b] w fun e w' => e = .returned (.bool false) ∧ w' = w := by
  unfold maxLen at w0 w1
  by_cases ha : 1048576 < a.size
  · go_enter Try.func11, Try.ntmps11
    go_wp2
    go_ret
    exact ⟨rfl, rfl⟩
  · by_cases hb : 1048576 < b.size
    · go_enter Try.func11, Try.ntmps11
      go_wp2
      go_ret
      exact ⟨rfl, rfl⟩
    · go_enter Try.func11, Try.ntmps11
      go_wp2
      go_ret
      exact ⟨rfl, rfl⟩
theorem text_any (s : ByteArray) (w : World) :
    Calls Try.prog 12 #[.string s] w fun e w' => e = .returned (.agg #[.int .u8 2, .int .i64 0, .string s]) ∧ w' = w.alloc (.cells #[.int .u8 2, .int .i64 0, .string s] 25) := by
  have hb := build_text s
  go_enter Try.func12, Try.ntmps12
  go_wp2
  exact bodyPost_ret (v := .agg #[.int .u8 2, .int .i64 0, .string s]) (by simp [results, Try.results12, go_sem]) rfl ⟨rfl, rfl⟩
theorem zztext_any (s : ByteArray) (w : World) :
    Calls Try.prog 9 #[.string s] w fun e w' => e = .returned (.agg #[.int .u8 2, .int .i64 0, .string s]) ∧ w' = (w.alloc (.cells #[.int .u8 2, .int .i64 0, .string s] 25)).alloc (.cells #[.int .u8 2, .int .i64 0, .string s] 25) := by
  go_enter Try.func9, Try.ntmps9
  go_wp2_with (go_at_call 12; refine (text_any _ _).mono ?_; rintro e w' ⟨rfl, rfl⟩)
  exact bodyPost_ret (v := .agg #[.int .u8 2, .int .i64 0, .string s]) (by simp [results, Try.results9, go_sem]) rfl ⟨rfl, rfl⟩

/-! ### THE WALK -/
theorem walk (a0 : ByteArray) (a1 : ByteArray) (w0 : a0.size ≤ maxLen) (w1 : a1.size ≤ maxLen) (w : World) :
    Calls Try.prog 5 #[.string a0, .string a1] w fun e w' => e = .returned (.bool true) ∧ Grown w w' := by
  by_cases h : a0.size + a1.size ≤ 1048576
  · have hn := build_null
    have h0 := eq25
    by_cases he : a0.toList = a1.toList
    · have he' : (a0.toList == a1.toList) = true := by simpa using he
      clear he
      go_enter Try.func5, Try.ntmps5
      go_wp2_with (first | (go_at_call 11; refine (bytes_yes _ _ h _).mono ?_; rintro e w' ⟨rfl, rfl⟩) | (go_at_call 9; refine (zztext_any _ _).mono ?_; rintro e w' ⟨rfl, rfl⟩))
      go_ret
      exact ⟨rfl, by repeat (first | exact Grown.refl _ | apply Grown.drew | apply Grown.alloc)⟩
    · have he' : (a0.toList == a1.toList) = false := by simpa using he
      clear he
      go_enter Try.func5, Try.ntmps5
      go_wp2_with (first | (go_at_call 11; refine (bytes_yes _ _ h _).mono ?_; rintro e w' ⟨rfl, rfl⟩) | (go_at_call 9; refine (zztext_any _ _).mono ?_; rintro e w' ⟨rfl, rfl⟩))
      go_ret
      exact ⟨rfl, by repeat (first | exact Grown.refl _ | apply Grown.drew | apply Grown.alloc)⟩
  · go_enter Try.func5, Try.ntmps5
    go_wp2_with (go_at_call 11; refine (bytes_no _ _ w0 w1 (by omega) _).mono ?_; rintro e w' ⟨rfl, rfl⟩)
    go_ret
    exact ⟨rfl, Grown.refl _⟩

/-! ### THE ROW's STEP: WRITTEN OUT: LEAVE IT -/
set_option maxRecDepth 100000 in
theorem lifted (os : Os) (started : os.Started) (H : Type) (enc : TypeId × Value → H) :
    ReturnsInHanded {} Try.checked os 5 .any (Rows.fnTextValueInjectiveSpec.pre6 enc Try.prog Try.f5 Rows.fnTextValueInjectiveRow.domain false) (Rows.fnTextValueInjectiveSpec.post enc Try.prog Try.f5 false true false false) := by
  refine returnsInHanded_of_change (C := Try.checked) own started (by kernel_rfl) Try.func5
    (ChangeSpec.witness6 (enc := enc) (C := Try.checked) false ⟨#[], #[.string ByteArray.empty, .string ByteArray.empty], []⟩ 8 (by kernel_rfl) (by kernel_rfl) (by kernel_rfl) (by kernel_rfl)) ?_
  intro W base args ds gs before hval0 hW hcnd _
  have hval : ∀ (j : Nat) t v, Try.f5.params[j]? = some t → args[j]? = some v → Value.okWide Try.prog W .any base t v := hval0
  have hW' := hW
  obtain ⟨p, q, hA0, hV, rfl, hfz, hnd⟩ := hW
  have hA : DataW.TrodAll enc Try.prog W 0 (fun _ => true) true Try.f5.params.toList args.toList ds p := hA0
  rw [Try.params5] at hA hval
  obtain ⟨v0, vs0, d0, ds0, p0, q0, hargs, rfl, rfl, h0, r0⟩ := trodAll_cons hA
  obtain ⟨v1, vs1, d1, ds1, p1, q1, rfl, rfl, rfl, h1, r1⟩ := trodAll_cons r0
  obtain ⟨rfl, rfl, rfl⟩ := trodAll_nil r1
  obtain rfl : args = #[v0, v1] := by cases args; simp_all
  obtain ⟨rfl, rfl⟩ := trodVars_none hV
  obtain ⟨a0, rfl, rfl, rfl, w0⟩ := open_string Try.underlying9 (hval 0 9 v0 rfl rfl) h0
  obtain ⟨a1, rfl, rfl, rfl, w1⟩ := open_string Try.underlying9 (hval 1 9 v1 rfl rfl) h1
  clear hA0 hval0
  simp only [List.append_nil] at hW'
  refine (walk a0 a1 w0 w1 W).mono fun e W' ⟨he, hg⟩ => ?_
  subst he
  exact ⟨_, rfl, post_of_same (pa := []) (pv := []) hW' (fun _ _ _ => (trodAll_cons_mk (shut_bool Try.underlying4 _) trodAll_mk0)) (fun sp _ => (trodAll_cons_mk (shut_string Try.underlying9 w0) (trodAll_cons_mk (shut_string Try.underlying9 w1) trodAll_mk0))) (fun _ _ => rfl) rfl
    (hg.frame _) hg.2.1 (ok_one (by kernel_rfl) rfl (okWide_bool_mk Try.underlying4 _))⟩

theorem over : Rows.fnTextValueInjectiveRow.holds Try.pinned (OpenSpec.ofChange Rows.fnTextValueInjectiveSpec) :=
  OpenClaim.holds_of_wide 5 Try.f5 rfl rfl rfl rfl rfl rfl rfl ⟨rfl, rfl, rfl, rfl, rfl⟩ rfl rfl rfl rfl rfl (by kernel_rfl) Try.func5 (by kernel_rfl)
    (of_decide_eq_true (by kernel_rfl)) (by unfold Func.isWrapper; first | (rw [if_pos (by decide +kernel)]; kernel_rfl) | (rw [if_neg (by decide +kernel)]; exact ⟨rfl, rfl⟩))
    (fun os started H enc _ => lifted os started H enc)

/-- ████ THE STATEMENT ████ -/
theorem proved : Rows.FnTextValueInjectiveSaid :=
  over
end Go.Proofs.Qxb6612210a.fnTextValueInjective
