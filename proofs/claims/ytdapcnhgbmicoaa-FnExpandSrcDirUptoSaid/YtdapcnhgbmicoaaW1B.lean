import Derived.Test.YtdapcnhgbmicoaaRows
import Derived.Test.YtdapcnhgbmicoaaBytes
import Derived.WalkKit
import Derived.WalkSpells
import Derived.WalkLawsBesides
namespace Go.Proofs.Ytdapcnhgbmicoaa
open Go.RowKit
set_option linter.unusedVariables false
set_option linter.unusedSimpArgs false


theorem begins_any (s h : ByteArray) (ws : s.size ≤ maxLen) (wh : h.size ≤ maxLen) (w : World) :
    Calls Try.prog 24 #[.string s, .string h] w fun e w' => e = .returned (.bool (beg s h)) ∧ w = w' := by
  unfold maxLen at ws wh
  by_cases hl : s.size < h.size
  · go_enter Try.func24, Try.ntmps24
    go_wp2
    go_ret
    exact ⟨ret_bool (beg_of_lt hl).symm, rfl⟩
  · go_enter Try.func24, Try.ntmps24
    go_wp2
    go_ret
    exact ⟨ret_bool (beg_ext s h), rfl⟩

end Go.Proofs.Ytdapcnhgbmicoaa
