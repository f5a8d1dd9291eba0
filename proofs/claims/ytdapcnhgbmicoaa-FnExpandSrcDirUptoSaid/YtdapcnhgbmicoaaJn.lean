/-
  What the references zzFits2, HasByte and Join return.
-/
import Derived.Test.YtdapcnhgbmicoaaW2
import Derived.Test.YtdapcnhgbmicoaaStrsB
import Derived.Test.YtdapcnhgbmicoaaSpl
namespace Go.Proofs.Ytdapcnhgbmicoaa
open Go.RowKit
set_option linter.unusedVariables false
set_option linter.unusedSimpArgs false

/-- The texts fit: no list and no text is longer than 2147483647. -/
def fits2 (ss : List ByteArray) : Bool := decide (ss.length ≤ 2147483647) && ss.all fun s => decide (s.size ≤ 2147483647)

theorem take_snoc_l {α : Type} (ss : List α) (k : Nat) (h : k < ss.length) : ss.take (k + 1) = ss.take k ++ [ss[k]] := by
  rw [List.take_succ_eq_append_getElem h]
theorem lall_snoc {α : Type} {p : α → Bool} {s : List α} {k : Nat} (h : k < s.length) (h1 : (s.take k).all p = true) (h2 : p s[k] = true) : (s.take (k + 1)).all p = true := by
  rw [take_snoc_l s k h, List.all_append, h1]; simp [h2]
theorem lall_not {α : Type} {p : α → Bool} {s : List α} {k : Nat} (h : k < s.length) (h2 : p s[k] = false) : s.all p = false := by
  rw [List.all_eq_false]
  exact ⟨_, List.getElem_mem h, by simp [h2]⟩
theorem lall_whole {α : Type} {p : α → Bool} {s : List α} {k : Nat} (h : s.length ≤ k) (h1 : (s.take k).all p = true) : s.all p = true := by
  rwa [List.take_of_length_le h] at h1

theorem fits2_any (A : Option Addr) (ss : List ByteArray) (cap : Nat) (w : World) (hs : Strs w A ss) (hl : ss.length ≤ maxLen) :
    Calls Try.prog 16 #[.slice A ss.length cap] w fun e w' => e = .returned (.bool (fits2 ss)) ∧ w = w' := by
  unfold maxLen at hl
  by_cases hbig : ss.length ≤ 2147483647
  · have HE : Hid (fits2 ss = ss.all fun s => decide (s.size ≤ 2147483647)) := Lib.hid <| by unfold fits2; rw [decide_eq_true hbig]; simp
    go_enter Try.func16, Try.ntmps16
    go_wp2
    go_loop [10] (fun i => ∃ k : Nat, k ≤ ss.length ∧ i = .int .i64 k ∧ ((ss.take k).all fun s => decide (s.size ≤ 2147483647)) = true) (fun i => ss.length - (intOf i).toNat)
    case atStart => exact ⟨0, Nat.zero_le _, rfl, by simp⟩
    case round =>
      obtain ⟨k, hk, rfl, hall⟩ := hrel
      have HA := Lib.hid hall; clear hall
      by_cases hlt : k < ss.length
      · obtain ⟨b, off, rfl, hb, hc⟩ := hs.2 (by omega)
        have hck := hc k hlt
        have hsz : ss[k].size ≤ 9223372036854775807 := by have := hs.1 ss[k] (List.getElem_mem hlt); unfold maxLen at this; omega
        clear hc hs
        generalize hx : ss[k] = x at *
        have HX := Lib.hid hx; clear hx
        by_cases hx : x.size ≤ 2147483647
        · go_wp2
          go_round
          case rel => exact ⟨k + 1, by omega, by go_num, lall_snoc hlt HA.out (by rw [HX.out]; simpa using hx)⟩
          case measure => simp [intOf]; omega
        · go_wp2
          go_ret
          exact ⟨ret_bool (by rw [HE.out, lall_not hlt (by rw [HX.out]; simpa using hx)]), rfl⟩
      · go_wp2
        go_ret
        exact ⟨ret_bool (by rw [HE.out]; exact (lall_whole (by omega) HA.out).symm), rfl⟩
  · have HE : Hid (fits2 ss = false) := Lib.hid <| by unfold fits2; rw [decide_eq_false hbig]; simp
    go_enter Try.func16, Try.ntmps16
    go_wp2
    go_ret
    exact ⟨ret_bool HE.out.symm, rfl⟩

theorem fits2_each {ss : List ByteArray} (h : fits2 ss = true) : ss.length ≤ 2147483647 ∧ ∀ s ∈ ss, s.size ≤ 2147483647 := by
  unfold fits2 at h
  simp only [Bool.and_eq_true, decide_eq_true_eq] at h
  exact ⟨h.1, fun s hs => by simpa using List.all_eq_true.1 h.2 s hs⟩
def hasB (s : ByteArray) (c : UInt8) : Bool := s.data.toList.any fun b => b == c
theorem hasB_yes {s : ByteArray} {c : UInt8} {k : Nat} (h : k < s.size) (e : s[k] = c) : hasB s c = true := by
  unfold hasB
  rw [List.any_eq_true]
  exact ⟨_, mem_at s k h, by simp [e]⟩
theorem hasB_no {s : ByteArray} {c : UInt8} {k : Nat} (hk : s.size ≤ k) (h : ((s.data.toList.take k).all fun b => !(b == c)) = true) : hasB s c = false := by
  unfold hasB
  rw [List.any_eq_false]
  intro b hb
  simpa using List.all_eq_true.1 (all_whole hk h) b hb
theorem hasByte_any (s : ByteArray) (n : Int) (c : UInt8) (hn : n = (c.toNat : Int)) (ws : s.size ≤ maxLen) (w : World) :
    Calls Try.prog 21 #[.string s, .int .u8 n] w fun e w' => e = .returned (.bool (hasB s c)) ∧ w = w' := by
  unfold maxLen at ws
  subst hn
  go_enter Try.func21, Try.ntmps21
  go_wp2
  go_loop [8] (fun i => ∃ k : Nat, k ≤ s.size ∧ i = .int .i64 k ∧ ((s.data.toList.take k).all fun b => !(b == c)) = true) (fun i => s.size - (intOf i).toNat)
  case atStart => exact ⟨0, Nat.zero_le _, rfl, by simp⟩
  case round =>
    obtain ⟨k, hk, rfl, hall⟩ := hrel
    have HA := Lib.hid hall; clear hall
    by_cases hlt : k < s.size
    · by_cases hb : s[k] = c
      · have HB := Lib.hid hb
        have e0 : ((s[k].toNat : Int) == (c.toNat : Int)) = true := by simp [hb]
        clear hb
        go_wp2
        go_ret
        exact ⟨ret_bool (hasB_yes hlt HB.out).symm, rfl⟩
      · have HB := Lib.hid hb
        have e0 : ((s[k].toNat : Int) == (c.toNat : Int)) = false := by
          simp; intro h; exact hb (UInt8.toNat_inj.1 (by omega))
        clear hb
        go_wp2
        go_round
        case rel => exact ⟨k + 1, by omega, by go_num, all_snoc hlt HA.out (by simpa using HB.out)⟩
        case measure => simp [intOf]; omega
    · go_wp2
      go_ret
      exact ⟨ret_bool (hasB_no (by omega) HA.out).symm, rfl⟩

def joinB (sep : ByteArray) (ss : List ByteArray) : ByteArray := ⟨(jl sep.data.toList (ss.map fun s => s.data.toList)).toArray⟩
theorem joinB_data (sep : ByteArray) (ss : List ByteArray) : (joinB sep ss).data.toList = jl sep.data.toList (ss.map fun s => s.data.toList) := by
  unfold joinB; simp
theorem joinB_nil (sep : ByteArray) : joinB sep [] = ⟨#[]⟩ := rfl
theorem joinB_first (sep : ByteArray) (ss : List ByteArray) (h : 0 < ss.length) : joinB sep (ss.take 1) = ss[0] := by
  apply WideShapes.bytes_inj
  rw [joinB_data]
  cases ss with
  | nil => simp at h
  | cons a r => simp [jl]
theorem joinB_next (sep : ByteArray) (ss : List ByteArray) (k : Nat) (h : k < ss.length) (h0 : 0 < k) : joinB sep (ss.take (k + 1)) = joinB sep (ss.take k) ++ sep ++ ss[k] := by
  apply WideShapes.bytes_inj
  rw [joinB_data, take_snoc_l ss k h, List.map_append, List.map_singleton, jl_snoc _ _ _ (by intro e; have := congrArg List.length e; rw [List.length_map, List.length_take, List.length_nil] at this; omega)]
  simp [ByteArray.data_append, joinB_data]

theorem joinB_size (sep : ByteArray) (ss : List ByteArray) (M : Nat) (h : ∀ s ∈ ss, s.size ≤ M) : (joinB sep ss).size ≤ ss.length * (M + sep.size) := by
  have := jl_size sep.data.toList M (ss.map fun s => s.data.toList) (by
    intro x hx
    obtain ⟨s, hs, rfl⟩ := List.mem_map.1 hx
    simpa using h s hs)
  rw [size_list, joinB_data]
  simpa using this
theorem joinB_take_size (sep : ByteArray) (ss : List ByteArray) (M k : Nat) (h : ∀ s ∈ ss, s.size ≤ M) (hk : k ≤ ss.length) (hb : ss.length * (M + sep.size) ≤ maxLen) : (joinB sep (ss.take k)).size ≤ maxLen := by
  have h1 := joinB_size sep (ss.take k) M (fun s hs => h s (List.mem_of_mem_take hs))
  have h2 : (ss.take k).length * (M + sep.size) ≤ ss.length * (M + sep.size) := Nat.mul_le_mul_right _ (by simp; omega)
  omega

theorem nil_append_b (x : ByteArray) : (⟨#[]⟩ : ByteArray) ++ x = x := WideShapes.bytes_inj (by simp [ByteArray.data_append])


theorem join_any (A : Option Addr) (ss : List ByteArray) (sep : ByteArray) (cap : Nat) (w : World) (hs : Strs w A ss) (hl : ss.length ≤ maxLen) (M : Nat) (hM : ∀ s ∈ ss, s.size ≤ M) (hB : ss.length * (M + sep.size) ≤ maxLen) :
    Calls Try.prog 17 #[.slice A ss.length cap, .string sep] w fun e w' => e = .returned (.string (joinB sep ss)) ∧ w = w' := by
  unfold maxLen at hl
  have HB := Lib.hid hB; clear hB
  have HM := Lib.hid hM; clear hM
  go_enter Try.func17, Try.ntmps17
  go_wp2
  go_loop [5, 10] (fun o i => ∃ k : Nat, k ≤ ss.length ∧ i = .int .i64 k ∧ o = .string (joinB sep (ss.take k))) (fun _ i => ss.length - (intOf i).toNat)
  case atStart => exact ⟨0, Nat.zero_le _, rfl, rfl⟩
  case round =>
    obtain ⟨k, hk, rfl, rfl⟩ := hrel
    by_cases hlt : k < ss.length
    · obtain ⟨b, off, rfl, hb, hc⟩ := hs.2 (by omega)
      have hck := hc k hlt
      by_cases h0 : 0 < k
      · have HN := Lib.hid (joinB_next sep ss k hlt h0)
        have hsz : (joinB sep (ss.take k)).size + sep.size + ss[k].size ≤ 9223372036854775807 := by
          have := joinB_take_size sep ss M (k + 1) HM.out (by omega) HB.out
          rw [HN.out, ByteArray.size_append, ByteArray.size_append] at this
          unfold maxLen at this; omega
        generalize hx : ss[k] = x at *
        generalize hj : joinB sep (ss.take k) = j at *
        clear hx hj hc hs
        go_wp2
        go_round
        case rel => exact ⟨k + 1, by omega, by go_num, by rw [HN.out]⟩
        case measure => simp [intOf]; omega
      · obtain rfl : k = 0 := by omega
        have hsz : ss[0].size ≤ 9223372036854775807 := by have := hs.1 ss[0] (List.getElem_mem hlt); unfold maxLen at this; omega
        have hck : w.cell? ⟨b, off, none⟩ = some (.string ss[0]) := by simpa using hc 0 hlt
        clear hc hs
        have HN := Lib.hid (joinB_first sep ss hlt)
        have HE : Hid (joinB sep (ss.take 0) = ⟨#[]⟩) := Lib.hid rfl
        generalize hx : ss[0] = x at *
        rw [HE.out]
        clear hx
        go_wp2
        go_round
        case rel => exact ⟨1, by omega, by go_num, by rw [HN.out, nil_append_b]⟩
        case measure => simp [intOf]; omega
    · go_wp2
      go_ret
      exact ⟨ret_string (by rw [List.take_of_length_le (by omega)]), rfl⟩


end Go.Proofs.Ytdapcnhgbmicoaa
