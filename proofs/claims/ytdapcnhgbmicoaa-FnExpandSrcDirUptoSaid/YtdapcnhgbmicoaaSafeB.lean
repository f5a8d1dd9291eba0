/-
  What SafeCgoName of the thin package returns.
-/
import Derived.Test.YtdapcnhgbmicoaaW2
namespace Go.Proofs.Ytdapcnhgbmicoaa
open Go.RowKit
set_option linter.unusedVariables false
set_option linter.unusedSimpArgs false

theorem zzSafe_any (s : ByteArray) (ws : s.size ≤ maxLen) (w : World) :
    Calls Try.prog 27 #[.string s] w fun e w' => e = .returned (.bool (safe s)) ∧ w = w' := by
  go_enter Try.func27, Try.ntmps27
  go_wp2_with (go_at_call 31; refine (safe_any _ ws _).mono ?_; rintro e w' ⟨rfl, rfl⟩)
  go_ret
  exact ⟨rfl, rfl⟩

theorem implSafe_any (s : ByteArray) (ws : s.size ≤ maxLen) (w : World) :
    Calls Try.prog 22 #[.string s] w fun e w' => e = .returned (.bool (safe s)) ∧ w = w' := by
  go_enter Try.func22, Try.ntmps22
  go_wp2_with (go_at_call 27; refine (zzSafe_any _ ws _).mono ?_; rintro e w' ⟨rfl, rfl⟩)
  go_ret
  exact ⟨rfl, rfl⟩

end Go.Proofs.Ytdapcnhgbmicoaa
