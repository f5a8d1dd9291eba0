/-
  What zzIndex of package build returns.
-/
import Derived.Test.YtbociefjibgklaaDoorBas
import Derived.Test.YtbociefjibgklaaDoorFi
import Derived.LoopTactic
namespace Go.Proofs.YtbociefjibgklaaDoor
open Go.RowKit
set_option linter.unusedVariables false
set_option linter.unusedSimpArgs false


theorem zzIndexG_any (s sub : ByteArray) (ws : s.size ≤ 4611686018427387904) (wp : sub.size ≤ 2147483647) (w : World) :
    Calls Tryd.prog 34 #[.string s, .string sub] w fun e w' => e = .returned (.int .i64 (fidx s sub)) ∧ w = w' := by
  go_enter Tryd.func34, Tryd.ntmps34
  go_wp2
  go_loop [5] (fun i => ∃ k : Nat, k ≤ s.size + 1 ∧ i = .int .i64 k ∧ FiAt s sub k) (fun i => s.size + 1 - (intOf i).toNat)
  case atStart => exact ⟨0, by omega, rfl, FiAt.zero _ _⟩
  case round =>
    obtain ⟨k, hk, rfl, hall⟩ := hrel
    by_cases hlt : k + sub.size ≤ s.size
    · have HX := Lib.hid (ext_pre s sub k hlt)
      cases hp : decide (sub.data.toList <+: s.data.toList.drop k)
      · have HN := Lib.hid (hall.next hlt hp)
        have e0 : ((s.extract k (k + sub.size)).toList == sub.toList) = false := by rw [HX.out, hp]
        clear hp
        go_wp2
        go_round
        case rel => exact ⟨k + 1, by omega, by go_num, HN.out⟩
        case measure => simp [intOf]; omega
      · have HN := Lib.hid (hall.yes hp)
        have e0 : ((s.extract k (k + sub.size)).toList == sub.toList) = true := by rw [HX.out, hp]
        clear hp
        go_wp2
        go_ret
        exact ⟨ret_int HN.out.symm, rfl⟩
    · have HN := Lib.hid (hall.no (by omega))
      go_wp2
      go_ret
      exact ⟨ret_int HN.out.symm, rfl⟩

end Go.Proofs.YtbociefjibgklaaDoor
