/-
  What IsASCII, strings.IndexByte and safeCgoName return.
-/
import Derived.Test.YtdapcnhgbmicoaaW1B
import Derived.Lib.Bytealg
import Derived.LoopTactic
namespace Go.Proofs.Ytdapcnhgbmicoaa
open Go.RowKit
set_option linter.unusedVariables false
set_option linter.unusedSimpArgs false

/-- A byte of ASCII other than 0. -/
def ascB (b : UInt8) : Bool := b != 0 && b ≤ 127
theorem ascB_bd {b : UInt8} (h : ascB b = true) : 1 ≤ b.toNat ∧ b.toNat ≤ 127 := by
  unfold ascB at h
  simp [UInt8.le_iff_toNat_le] at h
  refine ⟨?_, h.2⟩
  rcases Nat.eq_zero_or_pos b.toNat with h0 | h0
  · exact absurd (UInt8.toNat_inj.1 (by simpa using h0)) h.1
  · omega
theorem ascB_not {b : UInt8} (h : ascB b = false) : b.toNat = 0 ∨ 127 < b.toNat := by
  unfold ascB at h
  simp [UInt8.le_iff_toNat_le] at h
  by_cases h0 : b = 0
  · left; rw [h0]; rfl
  · right; have := h h0; simpa [UInt8.lt_iff_toNat_lt] using this
def asc (s : ByteArray) : Bool := s.data.toList.all ascB

theorem take_snoc (s : ByteArray) (k : Nat) (h : k < s.size) : s.data.toList.take (k + 1) = s.data.toList.take k ++ [s[k]] := by
  rw [List.take_succ_eq_append_getElem (by simpa using h)]; rfl
theorem mem_at (s : ByteArray) (k : Nat) (h : k < s.size) : s[k] ∈ s.data.toList := by
  have e : s[k] = s.data.toList[k]'(by simpa using h) := rfl
  rw [e]; exact List.getElem_mem _
theorem all_snoc {p : UInt8 → Bool} {s : ByteArray} {k : Nat} (h : k < s.size) (h1 : (s.data.toList.take k).all p = true) (h2 : p s[k] = true) : (s.data.toList.take (k + 1)).all p = true := by
  rw [take_snoc s k h, List.all_append, h1]; simp [h2]
theorem all_not {p : UInt8 → Bool} {s : ByteArray} {k : Nat} (h : k < s.size) (h2 : p s[k] = false) : s.data.toList.all p = false := by
  rw [List.all_eq_false]
  exact ⟨_, mem_at s k h, by simp [h2]⟩
theorem all_whole {p : UInt8 → Bool} {s : ByteArray} {k : Nat} (h : s.size ≤ k) (h1 : (s.data.toList.take k).all p = true) : s.data.toList.all p = true := by
  rwa [List.take_of_length_le (by simpa using h)] at h1

theorem isASCII_any (s : ByteArray) (ws : s.size ≤ maxLen) (w : World) :
    Calls Try.prog 8 #[.string s] w fun e w' => e = .returned (.bool (asc s)) ∧ w = w' := by
  unfold maxLen at ws
  go_enter Try.func8, Try.ntmps8
  go_wp2
  go_loop [6] (fun i => ∃ k : Nat, k ≤ s.size ∧ i = .int .i64 k ∧ (s.data.toList.take k).all ascB = true) (fun i => s.size - (intOf i).toNat)
  case atStart => exact ⟨0, Nat.zero_le _, rfl, by simp⟩
  case round =>
    obtain ⟨k, hk, rfl, hall⟩ := hrel
    have HA := Lib.hid hall; clear hall
    by_cases hlt : k < s.size
    · cases hb : ascB s[k]
      · have HB := Lib.hid hb; clear hb
        rcases ascB_not HB.out with h0 | h0
        all_goals
          go_wp2
          go_ret
          exact ⟨ret_bool (all_not hlt HB.out).symm, rfl⟩
      · obtain ⟨h0, h1⟩ := ascB_bd hb
        have HB := Lib.hid hb; clear hb
        have e0 : ((s[k].toNat : Int) == 0) = false := by simp; omega
        go_wp2
        go_round
        case rel => exact ⟨k + 1, by omega, by go_num, all_snoc hlt HA.out HB.out⟩
        case measure => simp [intOf]; omega
    · go_wp2
      go_ret
      exact ⟨ret_bool (all_whole (by omega) HA.out).symm, rfl⟩

theorem strlIndexByte_any (s : ByteArray) (c : Int) (w : World) :
    Calls Try.prog 49 #[.string s, .int .u8 c] w fun e w' => e = .returned (.int .i64 (Lib.indexByte s.data.toList c.toNat.toUInt8)) ∧ w = w' := by
  go_enter Try.func49, Try.ntmps49
  go_wp2
  rw [run_callFunc_extern Try.func52 (by kernel_rfl) (by kernel_rfl) (by kernel_rfl) (e := Extern.BytealgIndexByte.indexByte) (by kernel_rfl), Lib.run_indexByteString]
  simp only [Result.andThen]
  rw [Oper.upon_value]
  go_wp2
  go_ret
  exact ⟨rfl, rfl⟩

theorem strIndexByte_any (s : ByteArray) (c : Int) (w : World) :
    Calls Try.prog 42 #[.string s, .int .u8 c] w fun e w' => e = .returned (.int .i64 (Lib.indexByte s.data.toList c.toNat.toUInt8)) ∧ w = w' := by
  go_enter Try.func42, Try.ntmps42
  go_wp2_with (go_at_call 49; refine (strlIndexByte_any _ _ _).mono ?_; rintro e w' ⟨rfl, rfl⟩)
  go_ret
  exact ⟨rfl, rfl⟩

/-- The bytes that are safe. -/
def safeL : List UInt8 := [43, 45, 46, 44, 47, 48, 49, 50, 51, 52, 53, 54, 55, 56, 57, 61, 65, 66, 67, 68, 69, 70, 71, 72, 73, 74, 75, 76, 77, 78, 79, 80, 81, 82, 83, 84, 85, 86].append
  [87, 88, 89, 90, 95, 97, 98, 99, 100, 101, 102, 103, 104, 105, 106, 107, 108, 109, 110, 111, 112, 113, 114, 115, 116, 117, 118, 119, 120, 121, 122, 58, 36, 64, 37, 33, 32, 126, 94]
def idxSafe (b : UInt8) : Int := Lib.indexByte safeL b
def safeB (b : UInt8) : Bool := decide (128 ≤ b.toNat) || decide (0 ≤ idxSafe b)
def safe (s : ByteArray) : Bool := !s.data.toList.isEmpty && s.data.toList.all safeB

theorem safeIndex_any (b : UInt8) (w : World) :
    Calls Try.prog 42 #[.string ⟨safeL.toArray⟩, .int .u8 (b.toNat : Int)] w fun e w' => e = .returned (.int .i64 (idxSafe b)) ∧ w = w' := by
  have h := strIndexByte_any ⟨safeL.toArray⟩ (b.toNat : Int) w
  have e : ((b.toNat : Int)).toNat.toUInt8 = b := by rw [Int.toNat_natCast]; exact UInt8.ofNat_toNat
  rw [e] at h
  exact h

set_option maxRecDepth 100000 in
theorem safe_any (s : ByteArray) (ws : s.size ≤ maxLen) (w : World) :
    Calls Try.prog 31 #[.string s] w fun e w' => e = .returned (.bool (safe s)) ∧ w = w' := by
  unfold maxLen at ws
  cases hem : s.toList.isEmpty
  · have HE : Hid (safe s = s.data.toList.all safeB) := Lib.hid <| by unfold safe; rw [Lib.toList_data] at hem; rw [hem]; simp
    go_enter Try.func31, Try.ntmps31
    go_wp2
    go_loop [3] (fun i => ∃ k : Nat, k ≤ s.size ∧ i = .int .i64 k ∧ (s.data.toList.take k).all safeB = true) (fun i => s.size - (intOf i).toNat)
    case atStart => exact ⟨0, Nat.zero_le _, rfl, by simp⟩
    case round =>
      obtain ⟨k, hk, rfl, hall⟩ := hrel
      have HA := Lib.hid hall; clear hall
      by_cases hlt : k < s.size
      · by_cases h8 : s[k].toNat < 128
        · cases hb : decide (0 ≤ idxSafe s[k])
          · have HB : Hid (safeB s[k] = false) := Lib.hid <| by unfold safeB; rw [hb]; simp; omega
            have hi : idxSafe s[k] < 0 := by simpa using hb
            clear hb
            go_wp2_with (go_at_call 42; refine (safeIndex_any _ _).mono ?_; rintro e w' ⟨rfl, rfl⟩)
            go_ret
            exact ⟨ret_bool (by rw [HE.out, all_not hlt HB.out]), rfl⟩
          · have HB : Hid (safeB s[k] = true) := Lib.hid <| by unfold safeB; rw [hb]; simp
            have hi : 0 ≤ idxSafe s[k] := by simpa using hb
            clear hb
            go_wp2_with (go_at_call 42; refine (safeIndex_any _ _).mono ?_; rintro e w' ⟨rfl, rfl⟩)
            go_round
            case rel => exact ⟨k + 1, by omega, by go_num, all_snoc hlt HA.out HB.out⟩
            case measure => simp [intOf]; omega
        · have HB : Hid (safeB s[k] = true) := Lib.hid <| by unfold safeB; simp; omega
          go_wp2
          go_round
          case rel => exact ⟨k + 1, by omega, by go_num, all_snoc hlt HA.out HB.out⟩
          case measure => simp [intOf]; omega
      · go_wp2
        go_ret
        exact ⟨ret_bool (by rw [HE.out]; exact (all_whole (by omega) HA.out).symm), rfl⟩
  · have HE : Hid (safe s = false) := Lib.hid <| by unfold safe; rw [Lib.toList_data] at hem; rw [hem]; simp
    go_enter Try.func31, Try.ntmps31
    go_wp2
    go_ret
    exact ⟨ret_bool HE.out.symm, rfl⟩

end Go.Proofs.Ytdapcnhgbmicoaa
