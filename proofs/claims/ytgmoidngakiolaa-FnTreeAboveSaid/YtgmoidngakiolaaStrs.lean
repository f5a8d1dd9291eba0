/-
  A slice of strings that reads as a list; the plain words of zzFits2, IsClean, Same, IsPrefix, Join, and their walks.
-/
import Derived.Test.YtgmoidngakiolaaW2
import Derived.Below
import Derived.LoopTactic
import Derived.Deep.QuietTactic
import Derived.BigQuiet
namespace Go.Proofs.Ytgmoidngakiolaa
open Go.RowKit
set_option linter.unusedVariables false
set_option linter.unusedSimpArgs false

def Strs (w : World) (A : Option Addr) (ss : List ByteArray) : Prop :=
  (∀ s ∈ ss, s.size ≤ maxLen) ∧ (0 < ss.length → ∃ b off, A = some ⟨b, off, none⟩ ∧ b < w.heap.size ∧ ∀ i (h : i < ss.length), w.cell? ⟨b, off + i, none⟩ = some (.string ss[i]))

theorem Strs.below {w w' : World} {A : Option Addr} {ss : List ByteArray} (h : Strs w A ss) (hb : Below w.heap.size w w') : Strs w' A ss :=
  ⟨h.1, fun hp => by
    obtain ⟨b, off, e, hlt, hc⟩ := h.2 hp
    exact ⟨b, off, e, Nat.lt_of_lt_of_le hlt hb.size, fun i hi => (hb.cell (p := ⟨b, off + i, none⟩) hlt).trans (hc i hi)⟩⟩
theorem Strs.drewN {w : World} {A : Option Addr} {ss : List ByteArray} (h : Strs w A ss) (n : Nat) : Strs (w.drewN n) A ss := h
theorem Strs.takeN {w : World} {A : Option Addr} {ss : List ByteArray} (h : Strs w A ss) (n : Nat) : Strs w A (ss.take n) :=
  ⟨fun s hs => h.1 s (List.mem_of_mem_take hs), fun hp => by
    have hl : (ss.take n).length ≤ ss.length := by simp; omega
    obtain ⟨b, off, e, hlt, hc⟩ := h.2 (by omega)
    exact ⟨b, off, e, hlt, fun i hi => by rw [hc i (by omega)]; simp⟩⟩

/-- The texts fit: no list and no text is longer than 2147483647. -/
def fits2 (ss : List ByteArray) : Bool := decide (ss.length ≤ 2147483647) && ss.all fun s => decide (s.size ≤ 2147483647)

theorem take_snoc_l {α : Type} (ss : List α) (k : Nat) (h : k < ss.length) : ss.take (k + 1) = ss.take k ++ [ss[k]] := by
  rw [List.take_succ_eq_append_getElem h]
theorem lall_snoc {α : Type} {p : α → Bool} {s : List α} {k : Nat} (h : k < s.length) (h1 : (s.take k).all p = true) (h2 : p s[k] = true) : (s.take (k + 1)).all p = true := by
  rw [take_snoc_l s k h, List.all_append, h1]; simp [h2]
theorem lall_not {α : Type} {p : α → Bool} {s : List α} {k : Nat} (h : k < s.length) (h2 : p s[k] = false) : s.all p = false := by
  rw [List.all_eq_false]
  exact ⟨_, List.getElem_mem h, by simp [h2]⟩
theorem lall_whole {α : Type} {p : α → Bool} {s : List α} {k : Nat} (h : s.length ≤ k) (h1 : (s.take k).all p = true) : s.all p = true := by
  rwa [List.take_of_length_le h] at h1

theorem fits2_any (A : Option Addr) (ss : List ByteArray) (cap : Nat) (w : World) (hs : Strs w A ss) (hl : ss.length ≤ maxLen) :
    Calls Try.prog 12 #[.slice A ss.length cap] w fun e w' => e = .returned (.bool (fits2 ss)) ∧ w = w' := by
  unfold maxLen at hl
  by_cases hbig : ss.length ≤ 2147483647
  · have HE : Hid (fits2 ss = ss.all fun s => decide (s.size ≤ 2147483647)) := Lib.hid <| by unfold fits2; rw [decide_eq_true hbig]; simp
    go_enter Try.func12, Try.ntmps12
    go_wp2
    go_loop [10] (fun i => ∃ k : Nat, k ≤ ss.length ∧ i = .int .i64 k ∧ ((ss.take k).all fun s => decide (s.size ≤ 2147483647)) = true) (fun i => ss.length - (intOf i).toNat)
    case atStart => exact ⟨0, Nat.zero_le _, rfl, by simp⟩
    case round =>
      obtain ⟨k, hk, rfl, hall⟩ := hrel
      have HA := Lib.hid hall; clear hall
      by_cases hlt : k < ss.length
      · obtain ⟨b, off, rfl, hb, hc⟩ := hs.2 (by omega)
        have hck := hc k hlt
        have hsz : ss[k].size ≤ 9223372036854775807 := by have := hs.1 ss[k] (List.getElem_mem hlt); unfold maxLen at this; omega
        clear hc hs
        generalize hx : ss[k] = x at *
        have HX := Lib.hid hx; clear hx
        by_cases hx : x.size ≤ 2147483647
        · go_wp2
          go_round
          case rel => exact ⟨k + 1, by omega, by go_num, lall_snoc hlt HA.out (by rw [HX.out]; simpa using hx)⟩
          case measure => simp [intOf]; omega
        · go_wp2
          go_ret
          exact ⟨ret_bool (by rw [HE.out, lall_not hlt (by rw [HX.out]; simpa using hx)]), rfl⟩
      · go_wp2
        go_ret
        exact ⟨ret_bool (by rw [HE.out]; exact (lall_whole (by omega) HA.out).symm), rfl⟩
  · have HE : Hid (fits2 ss = false) := Lib.hid <| by unfold fits2; rw [decide_eq_false hbig]; simp
    go_enter Try.func12, Try.ntmps12
    go_wp2
    go_ret
    exact ⟨ret_bool HE.out.symm, rfl⟩

/-! ### HasByte -/
def hasB (s : ByteArray) (c : UInt8) : Bool := s.data.toList.any fun b => b == c
theorem hasB_yes {s : ByteArray} {c : UInt8} {k : Nat} (h : k < s.size) (e : s[k] = c) : hasB s c = true := by
  unfold hasB
  rw [List.any_eq_true]
  exact ⟨_, mem_at s k h, by simp [e]⟩
theorem hasB_no {s : ByteArray} {c : UInt8} {k : Nat} (hk : s.size ≤ k) (h : ((s.data.toList.take k).all fun b => !(b == c)) = true) : hasB s c = false := by
  unfold hasB
  rw [List.any_eq_false]
  intro b hb
  simpa using List.all_eq_true.1 (all_whole hk h) b hb
theorem hasByte_any (s : ByteArray) (n : Int) (c : UInt8) (hn : n = (c.toNat : Int)) (ws : s.size ≤ maxLen) (w : World) :
    Calls Try.prog 21 #[.string s, .int .u8 n] w fun e w' => e = .returned (.bool (hasB s c)) ∧ w = w' := by
  unfold maxLen at ws
  subst hn
  go_enter Try.func21, Try.ntmps21
  go_wp2
  go_loop [8] (fun i => ∃ k : Nat, k ≤ s.size ∧ i = .int .i64 k ∧ ((s.data.toList.take k).all fun b => !(b == c)) = true) (fun i => s.size - (intOf i).toNat)
  case atStart => exact ⟨0, Nat.zero_le _, rfl, by simp⟩
  case round =>
    obtain ⟨k, hk, rfl, hall⟩ := hrel
    have HA := Lib.hid hall; clear hall
    by_cases hlt : k < s.size
    · by_cases hb : s[k] = c
      · have HB := Lib.hid hb
        have e0 : ((s[k].toNat : Int) == (c.toNat : Int)) = true := by simp [hb]
        clear hb
        go_wp2
        go_ret
        exact ⟨ret_bool (hasB_yes hlt HB.out).symm, rfl⟩
      · have HB := Lib.hid hb
        have e0 : ((s[k].toNat : Int) == (c.toNat : Int)) = false := by
          simp; intro h; exact hb (UInt8.toNat_inj.1 (by omega))
        clear hb
        go_wp2
        go_round
        case rel => exact ⟨k + 1, by omega, by go_num, all_snoc hlt HA.out (by simpa using HB.out)⟩
        case measure => simp [intOf]; omega
    · go_wp2
      go_ret
      exact ⟨ret_bool (hasB_no (by omega) HA.out).symm, rfl⟩

/-! ### IsClean -/
def clean1 (e : ByteArray) : Bool := !e.data.toList.isEmpty && !hasB e 47
def clean (ss : List ByteArray) : Bool := ss.all clean1 && decide (0 < ss.length)

theorem isClean_any (A : Option Addr) (ss : List ByteArray) (cap : Nat) (w : World) (hs : Strs w A ss) (hl : ss.length ≤ maxLen) :
    Calls Try.prog 13 #[.slice A ss.length cap] w fun e w' => e = .returned (.bool (clean ss)) ∧ w = w' := by
  unfold maxLen at hl
  go_enter Try.func13, Try.ntmps13
  go_wp2
  go_loop [7] (fun i => ∃ k : Nat, k ≤ ss.length ∧ i = .int .i64 k ∧ ((ss.take k).all clean1) = true) (fun i => ss.length - (intOf i).toNat)
  case atStart => exact ⟨0, Nat.zero_le _, rfl, by simp⟩
  case round =>
    obtain ⟨k, hk, rfl, hall⟩ := hrel
    have HA := Lib.hid hall; clear hall
    by_cases hlt : k < ss.length
    · obtain ⟨b, off, rfl, hb, hc⟩ := hs.2 (by omega)
      have hck := hc k hlt
      have hsz : ss[k].size ≤ maxLen := hs.1 ss[k] (List.getElem_mem hlt)
      clear hc hs
      generalize hx : ss[k] = x at *
      have HX := Lib.hid hx; clear hx
      cases hem : x.toList.isEmpty
      · cases hh : hasB x 47
        · have HC : Hid (clean1 x = true) := Lib.hid <| by unfold clean1; rw [← Lib.toList_data, hem]; simp [Lib.toList_data, hh]
          have HH := Lib.hid hh; clear hh
          go_wp2_with (go_at_call 21; refine (hasByte_any _ _ 47 rfl hsz _).mono ?_; rintro e w' ⟨rfl, rfl⟩; rw [HH.out])
          go_round
          case rel => exact ⟨k + 1, by omega, by go_num, lall_snoc hlt HA.out (by rw [HX.out]; exact HC.out)⟩
          case measure => simp [intOf]; omega
        · have HC : Hid (clean1 x = false) := Lib.hid <| by unfold clean1; rw [hh]; simp
          have HH := Lib.hid hh; clear hh
          go_wp2_with (go_at_call 21; refine (hasByte_any _ _ 47 rfl hsz _).mono ?_; rintro e w' ⟨rfl, rfl⟩; rw [HH.out])
          go_ret
          exact ⟨ret_bool (by unfold clean; rw [lall_not hlt (by rw [HX.out]; exact HC.out)]; rfl), rfl⟩
      · have HC : Hid (clean1 x = false) := Lib.hid <| by unfold clean1; rw [← Lib.toList_data, hem]; simp
        go_wp2
        go_ret
        exact ⟨ret_bool (by unfold clean; rw [lall_not hlt (by rw [HX.out]; exact HC.out)]; rfl), rfl⟩
    · go_wp2
      go_ret
      exact ⟨ret_bool (by unfold clean; rw [lall_whole (by omega) HA.out]; simp), rfl⟩

end Go.Proofs.Ytgmoidngakiolaa
