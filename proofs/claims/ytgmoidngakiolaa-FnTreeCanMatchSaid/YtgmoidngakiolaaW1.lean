import Derived.Test.YtgmoidngakiolaaRows
import Derived.Test.YtgmoidngakiolaaPlain
import Derived.WalkKit
import Derived.WalkSpells
import Derived.WalkLawsBesides
namespace Go.Proofs.Ytgmoidngakiolaa
open Go.RowKit
set_option linter.unusedVariables false
set_option linter.unusedSimpArgs false

theorem ret_bool {a b : Bool} (h : a = b) : Ending.returned (.bool a) = .returned (.bool b) := by rw [h]

theorem begins_any (s h : ByteArray) (ws : s.size ≤ maxLen) (wh : h.size ≤ maxLen) (w : World) :
    Calls Try.prog 8 #[.string s, .string h] w fun e w' => e = .returned (.bool (beg s h)) ∧ w = w' := by
  unfold maxLen at ws wh
  by_cases hl : s.size < h.size
  · go_enter Try.func8, Try.ntmps8
    go_wp2
    go_ret
    exact ⟨ret_bool (beg_of_lt hl).symm, rfl⟩
  · go_enter Try.func8, Try.ntmps8
    go_wp2
    go_ret
    exact ⟨ret_bool (beg_ext s h), rfl⟩

theorem hasPrefix_any (s h : ByteArray) (ws : s.size ≤ maxLen) (wh : h.size ≤ maxLen) (w : World) :
    Calls Try.prog 30 #[.string s, .string h] w fun e w' => e = .returned (.bool (beg s h)) ∧ w = w' := by
  unfold maxLen at ws wh
  by_cases hl : s.size < h.size
  · go_enter Try.func30, Try.ntmps30
    go_wp2
    go_ret
    exact ⟨ret_bool (beg_of_lt hl).symm, rfl⟩
  · go_enter Try.func30, Try.ntmps30
    go_wp2
    go_ret
    exact ⟨ret_bool (beg_ext s h), rfl⟩

theorem strHasPrefix_any (s h : ByteArray) (ws : s.size ≤ maxLen) (wh : h.size ≤ maxLen) (w : World) :
    Calls Try.prog 25 #[.string s, .string h] w fun e w' => e = .returned (.bool (beg s h)) ∧ w = w' := by
  go_enter Try.func25, Try.ntmps25
  go_wp2_with (go_at_call 30; refine (hasPrefix_any _ _ ws wh _).mono ?_; rintro e w' ⟨rfl, rfl⟩)
  go_ret
  exact ⟨rfl, rfl⟩

theorem isLocal_any (s : ByteArray) (ws : s.size ≤ maxLen) (w : World) :
    Calls Try.prog 19 #[.string s] w fun e w' => e = .returned (.bool (loc s)) ∧ w = w' := by
  go_enter Try.func19, Try.ntmps19
  go_wp2_with (go_at_call 25; refine (strHasPrefix_any _ _ ws (by decide) _).mono ?_; rintro e w' ⟨rfl, rfl⟩)
  all_goals go_ret
  all_goals refine ⟨ret_bool ?_, rfl⟩
  all_goals simp_all [loc]

theorem implLocal_any (s : ByteArray) (ws : s.size ≤ maxLen) (w : World) :
    Calls Try.prog 9 #[.string s] w fun e w' => e = .returned (.bool (loc s)) ∧ w = w' := by
  go_enter Try.func9, Try.ntmps9
  go_wp2_with (go_at_call 19; refine (isLocal_any _ ws _).mono ?_; rintro e w' ⟨rfl, rfl⟩)
  go_ret
  exact ⟨rfl, rfl⟩

theorem localWalk (a0 : ByteArray) (w0 : a0.size ≤ maxLen) (w : World) :
    Calls Try.prog 3 #[.string a0] w fun e w' => e = .returned (.bool true) ∧ Grown w w' := by
  unfold maxLen at w0
  by_cases hbig : 2147483647 < a0.size
  · go_enter Try.func3, Try.ntmps3
    go_wp2
    go_ret
    exact ⟨rfl, Grown.refl _⟩
  · go_enter Try.func3, Try.ntmps3
    go_wp2_with (first | (go_at_call 8; refine (begins_any _ _ (by unfold maxLen; omega) (by decide) _).mono ?_; rintro e w' ⟨rfl, rfl⟩) | (go_at_call 9; refine (implLocal_any _ (by first | decide | (unfold maxLen; omega) | exact app_le 8 (by decide) (by unfold maxLen; omega)) _).mono ?_; rintro e w' ⟨rfl, rfl⟩))
    all_goals go_ret
    all_goals refine ⟨ret_bool ?_, Grown.refl _⟩
    all_goals have h1 := loc_one a0
    all_goals have h2 := loc_two a0
    all_goals have h3 : loc ⟨#[46, 47, 97]⟩ = true := loc_3
    all_goals first | exact h2 | (exfalso; simp_all; done) | (exfalso; simp_all [loc]; done)

end Go.Proofs.Ytgmoidngakiolaa
