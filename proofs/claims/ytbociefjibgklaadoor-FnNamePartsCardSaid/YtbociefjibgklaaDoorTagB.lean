/-
  IsTag.
-/
import Derived.Test.YtbociefjibgklaaDoorTagA
namespace Go.Proofs.YtbociefjibgklaaDoor
open Go.RowKit
set_option linter.unusedVariables false
set_option linter.unusedSimpArgs false

def boring : ByteArray := ⟨#[98, 111, 114, 105, 110, 103, 99, 114, 121, 112, 116, 111]⟩
def ignoreB : ByteArray := ⟨#[105, 103, 110, 111, 114, 101]⟩
def tagB (b : UInt8) : Bool := isWord b || b == 46
def isTag (t : ByteArray) : Bool := t.data.toList.all tagB && (!t.toList.isEmpty && !t.toList == [98, 111, 114, 105, 110, 103, 99, 114, 121, 112, 116, 111] && !t.toList == [105, 103, 110, 111, 114, 101])

theorem isTag_any (s : ByteArray) (ws : s.size ≤ maxLen) (w : World) :
    Calls Tryd.prog 9 #[.string s] w fun e w' => e = .returned (.bool (isTag s)) ∧ w = w' := by
  unfold maxLen at ws
  go_enter Tryd.func9, Tryd.ntmps9
  go_wp2
  go_loop [6] (fun i => ∃ k : Nat, k ≤ s.size ∧ i = .int .i64 k ∧ (s.data.toList.take k).all tagB = true) (fun i => s.size - (intOf i).toNat)
  case atStart => exact ⟨0, Nat.zero_le _, rfl, by simp⟩
  case round =>
    obtain ⟨k, hk, rfl, hall⟩ := hrel
    have HA := Lib.hid hall; clear hall
    by_cases hlt : k < s.size
    · cases hl : isWord s[k]
      · have HL := Lib.hid hl; clear hl
        by_cases hu : s[k] = 46
        · have e0 : ((s[k].toNat : Int) == 46) = true := by rw [hu]; rfl
          have HE : Hid (tagB s[k] = true) := Lib.hid <| by unfold tagB; simp [hu]
          clear hu
          go_wp2_with (go_at_call 20; refine (isWordByte_any s[k] _ rfl _).mono ?_; rintro e w' ⟨rfl, rfl⟩; rw [HL.out])
          go_round
          case rel => exact ⟨k + 1, by omega, by go_num, all_snoc hlt HA.out HE.out⟩
          case measure => simp [intOf]; omega
        · have e0 : ((s[k].toNat : Int) == 46) = false := byte_ne (c := 46) hu
          have HE : Hid (tagB s[k] = false) := Lib.hid <| by unfold tagB; rw [HL.out]; simp [hu]
          clear hu
          go_wp2_with (go_at_call 20; refine (isWordByte_any s[k] _ rfl _).mono ?_; rintro e w' ⟨rfl, rfl⟩; rw [HL.out])
          go_ret
          exact ⟨ret_bool (by unfold isTag; rw [all_not hlt HE.out]; rfl), rfl⟩
      · have HE : Hid (tagB s[k] = true) := Lib.hid <| by unfold tagB; rw [hl]; rfl
        have HL := Lib.hid hl; clear hl
        go_wp2_with (go_at_call 20; refine (isWordByte_any s[k] _ rfl _).mono ?_; rintro e w' ⟨rfl, rfl⟩; rw [HL.out])
        go_round
        case rel => exact ⟨k + 1, by omega, by go_num, all_snoc hlt HA.out HE.out⟩
        case measure => simp [intOf]; omega
    · have HW := Lib.hid (all_whole (by omega) HA.out)
      go_wp2
      all_goals go_ret
      all_goals
        refine ⟨ret_bool ?_, rfl⟩
        unfold isTag
        rw [HW.out]
        first
          | rfl
          | (simp only [Bool.true_and, *]; done)
          | simp [*]

end Go.Proofs.YtbociefjibgklaaDoor
