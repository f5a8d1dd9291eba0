/-
  The walk of the law FnSafeJoined.
-/
import Derived.Test.YtgmoidngakiolaaW2
import Derived.Deep.Light
namespace Go.Proofs.Ytgmoidngakiolaa
open Go.RowKit
set_option linter.unusedVariables false
set_option linter.unusedSimpArgs false

theorem zzSafe_any (s : ByteArray) (ws : s.size ≤ maxLen) (w : World) :
    Calls Try.prog 20 #[.string s] w fun e w' => e = .returned (.bool (safe s)) ∧ w = w' := by
  go_enter Try.func20, Try.ntmps20
  go_wp2_with (go_at_call 26; refine (safe_any _ ws _).mono ?_; rintro e w' ⟨rfl, rfl⟩)
  go_ret
  exact ⟨rfl, rfl⟩

theorem implSafe_any (s : ByteArray) (ws : s.size ≤ maxLen) (w : World) :
    Calls Try.prog 10 #[.string s] w fun e w' => e = .returned (.bool (safe s)) ∧ w = w' := by
  go_enter Try.func10, Try.ntmps10
  go_wp2_with (go_at_call 20; refine (zzSafe_any _ ws _).mono ?_; rintro e w' ⟨rfl, rfl⟩)
  go_ret
  exact ⟨rfl, rfl⟩

theorem safe_add {a b : ByteArray} (ha : a.data.toList ≠ []) (hb : b.data.toList ≠ []) : safe (a ++ b) = (safe a && safe b) := by
  unfold safe
  rw [ByteArray.data_append, Array.toList_append, List.all_append]
  have h1 : a.data.toList.isEmpty = false := by simpa using ha
  have h2 : b.data.toList.isEmpty = false := by simpa using hb
  have h3 : (a.data.toList ++ b.data.toList).isEmpty = false := by simp; intro h; exact absurd (by simpa using h) ha
  rw [h1, h2, h3]; simp

set_option maxRecDepth 100000 in
theorem safe_c1 : safe ⟨#[97, 90, 48, 57]⟩ = true := by decide
set_option maxRecDepth 100000 in
theorem safe_c2 : safe ⟨#[]⟩ = false := by decide
set_option maxRecDepth 100000 in
theorem safe_c3 : safe ⟨#[59]⟩ = false := by decide
set_option maxRecDepth 100000 in
theorem safe_c4 : safe ⟨#[97, 124, 98]⟩ = false := by decide

theorem add_le {a b : ByteArray} (ha : a.size ≤ 2147483647) (hb : b.size ≤ 2147483647) : (a ++ b).size ≤ maxLen := by
  rw [ByteArray.size_append]; unfold maxLen; omega

set_option maxRecDepth 100000 in
theorem safeWalk (a0 a1 : ByteArray) (w0 : a0.size ≤ maxLen) (w1 : a1.size ≤ maxLen) (w : World) :
    Calls Try.prog 4 #[.string a0, .string a1] w fun e w' => e = .returned (.bool true) ∧ Grown w w' := by
  have m0 := w0
  have m1 := w1
  unfold maxLen at w0 w1
  have c1 := safe_c1
  have c2 := safe_c2
  have c3 := safe_c3
  have c4 := safe_c4
  by_cases hbig : 2147483647 < a0.size ∨ 2147483647 < a1.size
  · rcases hbig with hbig | hbig
    all_goals
      go_enter Try.func4, Try.ntmps4
      go_wp2_with fail
      all_goals go_ret
      all_goals exact ⟨rfl, Grown.refl _⟩
  · have hl : a0.size ≤ 2147483647 ∧ a1.size ≤ 2147483647 := by omega
    obtain ⟨hl0, hl1⟩ := hl
    clear hbig
    go_enter Try.func4, Try.ntmps4
    go_wp2_with (first | (go_at_call 10; refine (implSafe_any _ (by first | decide | exact m0 | exact m1 | exact add_le hl0 hl1) _).mono ?_; rintro e w' ⟨rfl, rfl⟩) | (go_at_call 11; refine (isASCII_any _ (by first | exact m0 | exact m1) _).mono ?_; rintro e w' ⟨rfl, rfl⟩))
    all_goals go_ret
    all_goals refine ⟨ret_bool ?_, Grown.refl _⟩
    all_goals first | rfl | (go_light; rw [safe_add (a := a0) (b := a1) (by rw [← Lib.toList_data]; assumption) (by rw [← Lib.toList_data]; assumption)]; cases h1 : safe a0 <;> cases h2 : safe a1 <;> simp_all)

end Go.Proofs.Ytgmoidngakiolaa
