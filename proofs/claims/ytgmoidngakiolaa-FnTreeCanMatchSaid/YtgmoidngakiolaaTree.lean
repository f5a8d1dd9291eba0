/-
  What TreeCanMatch returns.
-/
import Derived.Test.YtgmoidngakiolaaPatLaw
import Derived.Test.YtgmoidngakiolaaIdx
import Derived.OwnWalk
namespace Go.Proofs.Ytgmoidngakiolaa
open Go.RowKit
set_option linter.unusedVariables false
set_option linter.unusedSimpArgs false

def dots : ByteArray := ⟨#[46, 46, 46]⟩
/-- What stands ahead of the first dots, and whether there are any. -/
def cutP (p : ByteArray) : ByteArray := p.extract 0 (if 0 ≤ fidx p dots then (fidx p dots).toNat else p.size)
def wild (p : ByteArray) : Bool := decide (0 ≤ fidx p dots)
def tcm (p n : ByteArray) : Bool := hpp (cutP p) n || (wild p && beg n (cutP p))

theorem ext_le (p : ByteArray) (i : Nat) : (p.extract 0 i).size ≤ p.size := by
  rw [ByteArray.size_extract]; omega
theorem ext_size (p : ByteArray) (i : Nat) (h : i ≤ p.size) : (p.extract 0 i).size = i := by
  rw [ByteArray.size_extract]; omega
theorem ext_full (p : ByteArray) : p.extract 0 p.size = p := by
  apply WideShapes.bytes_inj
  rw [Lib.extract_data, List.drop_zero, Nat.sub_zero, size_list, List.take_length]
theorem tcm_no {p : ByteArray} (n : ByteArray) (h : fidx p dots = -1) : tcm p n = hpp p n := by
  unfold tcm cutP wild
  rw [h]
  simp [ext_full]
theorem tcm_yes {p : ByteArray} (n : ByteArray) {i : Nat} (h : fidx p dots = i) : tcm p n = (hpp (p.extract 0 i) n || beg n (p.extract 0 i)) := by
  unfold tcm cutP wild
  rw [h]
  simp

set_option maxHeartbeats 1000000 in
theorem tcm_any (p n : ByteArray) (wp : p.size ≤ 2147483647) (wn : n.size ≤ maxLen) (w : World) :
    Calls Try.prog 17 #[.string p, .string n] w fun e w' => e = .returned (.bool (tcm p n)) ∧ Below w.heap.size w w' := by
  have mn := wn
  unfold maxLen at wn
  rcases Int.lt_or_le (fidx p dots) 0 with hi | hi
  · have hi' : Hid (fidx p dots = -1) := Lib.hid (by have := (fidx_bd p dots).1; omega)
    have HT := Lib.hid (tcm_no n hi'.out)
    clear hi
    by_cases hl : n.size ≤ p.size
    · go_enter Try.func17, Try.ntmps17
      go_wp2_with (first | (go_at_call 28; refine (zzIndex_any _ dots (by omega) (by decide) _).mono ?_; rintro e w' ⟨rfl, rfl⟩; rw [hi'.out]) | (go_at_call 27; refine (hpp_any _ _ (by unfold maxLen; omega) mn _).mono ?_; rintro e w' ⟨rfl, rfl⟩) | go_in)
      all_goals go_ret
      all_goals refine ⟨ret_bool ?_, (((Below.refl _ _).alloc (Nat.le_refl _) _).alloc (by simp) _)⟩
      all_goals rw [HT.out]
      all_goals simp_all
    · have HF := Lib.hid (hpp_lt (s := p) (p := n) (by omega))
      go_enter Try.func17, Try.ntmps17
      go_wp2_with (first | (go_at_call 28; refine (zzIndex_any _ dots (by omega) (by decide) _).mono ?_; rintro e w' ⟨rfl, rfl⟩; rw [hi'.out]) | (go_at_call 27; refine (hpp_any _ _ (by unfold maxLen; omega) mn _).mono ?_; rintro e w' ⟨rfl, rfl⟩) | go_in)
      all_goals go_ret
      all_goals refine ⟨ret_bool ?_, (((Below.refl _ _).alloc (Nat.le_refl _) _).alloc (by simp) _)⟩
      all_goals rw [HT.out, HF.out]
  · obtain ⟨i, hi1⟩ := Int.eq_ofNat_of_zero_le hi
    have hb := (fidx_bd p dots).2.1 hi
    have hd : dots.size = 3 := rfl
    rw [hd, hi1] at hb
    have hb' : i + 3 ≤ p.size := by omega
    clear hb hd hi
    have HT := Lib.hid (tcm_yes n hi1)
    have HI := Lib.hid hi1
    clear hi1
    have hsz : (p.extract 0 i).size ≤ maxLen := by have := ext_le p i; unfold maxLen; omega
    have hes := Lib.hid (ext_size p i (by omega))
    by_cases hl : n.size ≤ i
    · go_enter Try.func17, Try.ntmps17
      go_wp2_with (first | (go_at_call 28; refine (zzIndex_any _ dots (by omega) (by decide) _).mono ?_; rintro e w' ⟨rfl, rfl⟩; rw [HI.out]) | (go_at_call 27; refine (hpp_any _ _ hsz mn _).mono ?_; rintro e w' ⟨rfl, rfl⟩) | (go_at_call 25; refine (strHasPrefix_any _ _ mn hsz _).mono ?_; rintro e w' ⟨rfl, rfl⟩) | go_in)
      all_goals go_ret
      all_goals refine ⟨ret_bool ?_, (((Below.refl _ _).alloc (Nat.le_refl _) _).alloc (by simp) _)⟩
      all_goals rw [HT.out]
      all_goals simp_all
    · have HF := Lib.hid (hpp_lt (s := p.extract 0 i) (p := n) (by rw [hes.out]; omega))
      go_enter Try.func17, Try.ntmps17
      go_wp2_with (first | (go_at_call 28; refine (zzIndex_any _ dots (by omega) (by decide) _).mono ?_; rintro e w' ⟨rfl, rfl⟩; rw [HI.out]) | (go_at_call 27; refine (hpp_any _ _ hsz mn _).mono ?_; rintro e w' ⟨rfl, rfl⟩) | (go_at_call 25; refine (strHasPrefix_any _ _ mn hsz _).mono ?_; rintro e w' ⟨rfl, rfl⟩) | go_in)
      all_goals go_ret
      all_goals refine ⟨ret_bool ?_, (((Below.refl _ _).alloc (Nat.le_refl _) _).alloc (by simp) _)⟩
      all_goals rw [HT.out, HF.out]
      all_goals simp_all

/-! ### The reference: CanMatch -/
def cmNo (p n : ByteArray) : Bool := decide (p = n) || beg p (n ++ sl)
def cmYes (q n : ByteArray) : Bool := beg q (n ++ sl) || beg n q
def scm (p n : ByteArray) : Bool := if 0 ≤ fidx p dots then cmYes (p.extract 0 (fidx p dots).toNat) n else cmNo p n

theorem scm_at {p : ByteArray} (n : ByteArray) {k : Nat} (h : FiAt p dots k) (hy : decide (dots.data.toList <+: p.data.toList.drop k) = true) : scm p n = cmYes (p.extract 0 k) n := by
  have := h.yes hy
  unfold scm
  rw [this]
  simp
theorem scm_end {p : ByteArray} (n : ByteArray) {k : Nat} (h : FiAt p dots k) (hk : p.size ≤ k) : scm p n = cmNo p n := by
  have hd : dots.size = 3 := rfl
  have := h.no (by omega)
  unfold scm
  rw [this]
  simp
theorem beg_drop (p : ByteArray) (k : Nat) : beg (p.extract k p.size) dots = decide (dots.data.toList <+: p.data.toList.drop k) := by
  unfold beg
  rw [Lib.extract_data, List.take_of_length_le (by rw [List.length_drop, size_list]; omega)]
theorem FiAt.step {s sub : ByteArray} {k : Nat} (h : FiAt s sub k) (h0 : k < s.size) (hn : decide (sub.data.toList <+: s.data.toList.drop k) = false) : FiAt s sub (k + 1) := by
  rw [decide_eq_false_iff_not] at hn
  unfold FiAt at h ⊢
  rw [h, fi_next (by simpa using h0) hn, Option.map_map]
  congr 1
  funext x
  simp
  omega
theorem eq_toList (p n : ByteArray) : (p.toList == n.toList) = decide (p = n) := by
  rw [Bool.eq_iff_iff]
  simp only [beq_iff_eq, decide_eq_true_eq]
  exact ⟨bytes_eq, fun e => by rw [e]⟩

theorem scm_any (p n : ByteArray) (wp : p.size ≤ 2147483647) (wn : n.size + 1 ≤ maxLen) (w : World) :
    Calls Try.prog 18 #[.string p, .string n] w fun e w' => e = .returned (.bool (scm p n)) ∧ w = w' := by
  have mn : n.size ≤ maxLen := by omega
  have mp : p.size ≤ maxLen := by unfold maxLen; omega
  have mx : ∀ a b, (p.extract a b).size ≤ maxLen := fun a b => by rw [ByteArray.size_extract]; omega
  have ma : (n ++ sl).size ≤ maxLen := by rw [ByteArray.size_append]; exact wn
  have MX := Lib.hid mx
  clear mx
  unfold maxLen at wn
  go_enter Try.func18, Try.ntmps18
  go_wp2_with fail
  go_loop [8] (fun i => ∃ k : Nat, k ≤ p.size ∧ i = .int .i64 k ∧ FiAt p dots k) (fun i => p.size - (intOf i).toNat)
  case atStart => exact ⟨0, Nat.zero_le _, rfl, FiAt.zero _ _⟩
  case round =>
    obtain ⟨k, hk, rfl, hall⟩ := hrel
    by_cases hlt : k < p.size
    · have HX := Lib.hid (beg_drop p k)
      cases hp : decide (dots.data.toList <+: p.data.toList.drop k)
      · have HN := Lib.hid (hall.step hlt hp)
        have HP := Lib.hid hp
        clear hp
        go_wp2_with (go_at_call 8; refine (begins_any _ dots (MX.out _ _) (by decide) _).mono ?_; rintro e w' ⟨rfl, rfl⟩; rw [HX.out, HP.out])
        go_round
        case rel => exact ⟨k + 1, by omega, by go_num, HN.out⟩
        case measure => simp [intOf]; omega
      · have HN := Lib.hid (scm_at n hall hp)
        have HP := Lib.hid hp
        clear hp
        go_wp2_with fail
        refine (begins_any _ dots (MX.out _ _) (by decide) _).mono ?_; rintro e w' ⟨rfl, rfl⟩; rw [HX.out, HP.out]
        go_wp2_with fail
        refine (begins_any _ (n ++ sl) (MX.out _ _) ma _).mono ?_; rintro e w' ⟨rfl, rfl⟩
        go_wp2_with (go_at_call 8; refine (begins_any _ _ mn (MX.out _ _) _).mono ?_; rintro e w' ⟨rfl, rfl⟩)
        all_goals go_ret
        all_goals refine ⟨ret_bool ?_, rfl⟩
        all_goals rw [HN.out]
        all_goals unfold cmYes
        all_goals simp_all
    · have HN := Lib.hid (scm_end n hall (by omega))
      have HE := Lib.hid (eq_toList p n)
      go_wp2_with (go_at_call 8; refine (begins_any _ (n ++ sl) mp ma _).mono ?_; rintro e w' ⟨rfl, rfl⟩)
      all_goals go_ret
      all_goals refine ⟨ret_bool ?_, rfl⟩
      all_goals rw [HN.out]
      all_goals unfold cmNo
      all_goals rw [← HE.out]
      all_goals simp_all

end Go.Proofs.Ytgmoidngakiolaa
