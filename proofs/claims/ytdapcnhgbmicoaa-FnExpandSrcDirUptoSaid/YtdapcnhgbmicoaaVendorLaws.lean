/-
  The walks of the laws FnReplaceVendor and FnReplaceVendorSame.
-/
import Derived.Test.YtdapcnhgbmicoaaVendor
namespace Go.Proofs.Ytdapcnhgbmicoaa
open Go.RowKit
set_option linter.unusedVariables false
set_option linter.unusedSimpArgs false

theorem zzRv_any (x r : ByteArray) (hx : x.size ≤ 1048576) (hr : r.size ≤ 1048576) (w : World) :
    Calls Try.prog 25 #[.string x, .string r] w fun e w' => e = .returned (.string (rep x r)) ∧ Below w.heap.size w w' := by
  go_enter Try.func25, Try.ntmps25
  go_wp2_with fail
  refine (replaceVendor_any x r hx hr _).mono ?_; rintro e w1 ⟨rfl, b1⟩
  go_wp2_with fail
  go_ret
  exact ⟨rfl, b1⟩
theorem implRv_any (x r : ByteArray) (hx : x.size ≤ 1048576) (hr : r.size ≤ 1048576) (w : World) :
    Calls Try.prog 14 #[.string x, .string r] w fun e w' => e = .returned (.string (rep x r)) ∧ Below w.heap.size w w' := by
  go_enter Try.func14, Try.ntmps14
  go_wp2_with fail
  refine (zzRv_any x r hx hr _).mono ?_; rintro e w1 ⟨rfl, b1⟩
  go_wp2_with fail
  go_ret
  exact ⟨rfl, b1⟩
theorem rep_c1 : rep ⟨#[118, 101, 110, 100, 111, 114, 47, 97]⟩ ⟨#[118]⟩ = ⟨#[118, 47, 97]⟩ := by decide +kernel

theorem vendorArgs (x r : ByteArray) (w : World) (w0 : x.size ≤ maxLen) (w1 : r.size ≤ maxLen) (hx : x.size ≤ 1048576) (hr : r.size ≤ 1048576) :
    Calls Try.prog 5 #[.string x, .string r] w fun e w' => e = .returned (.bool true) ∧ Below w.heap.size w w' := by
  have c1 := rep_c1
  go_enter Try.func5, Try.ntmps5
  go_wp2_with fail
  refine (implRv_any _ _ (by decide) (by decide) _).mono ?_; rintro e w1 ⟨rfl, b1⟩
  rw [c1]
  go_wp2_with fail
  refine (implRv_any x r hx hr _).mono ?_; rintro e w2 ⟨rfl, b2⟩
  have B2 : Below w.heap.size w w2 := b1.trans (b2.mono b1.size)
  clear b1 b2 c1
  generalize hk : rep x r = k
  have HK := Lib.hid hk; clear hk
  go_wp2_with fail
  refine (replaced_any x r hx hr _).mono ?_; rintro e w3 ⟨rfl, b3⟩
  rw [HK.out]
  have B3 : Below w.heap.size w w3 := B2.trans (b3.mono B2.size)
  go_wp2_with fail
  go_ret
  exact ⟨ret_bool (by simp), B3⟩

/-! ### Has -/
def has (ss : List ByteArray) (x : ByteArray) : Bool := ss.any fun s => s.toList == x.toList
theorem has_yes {ss : List ByteArray} {x : ByteArray} {k : Nat} (h : k < ss.length) (e : ss[k] = x) : has ss x = true := by
  unfold has; rw [List.any_eq_true, ← e]; exact ⟨_, List.getElem_mem h, by simp⟩
theorem has_no {ss : List ByteArray} {x : ByteArray} {k : Nat} (hk : ss.length ≤ k) (h : ((ss.take k).all fun b => !(b.toList == x.toList)) = true) : has ss x = false := by
  unfold has
  rw [List.any_eq_false]
  intro s hm
  rw [List.take_of_length_le hk] at h
  have := List.all_eq_true.1 h s hm
  simpa using this
theorem has_any (A : Option Addr) (ss : List ByteArray) (x : ByteArray) (cap : Nat) (w : World) (hs : Strs w A ss) (hl : ss.length ≤ maxLen) :
    Calls Try.prog 18 #[.slice A ss.length cap, .string x] w fun e w' => e = .returned (.bool (has ss x)) ∧ w = w' := by
  unfold maxLen at hl
  go_enter Try.func18, Try.ntmps18
  go_wp2
  go_loop [9] (fun i => ∃ k : Nat, k ≤ ss.length ∧ i = .int .i64 k ∧ ((ss.take k).all fun b => !(b.toList == x.toList)) = true) (fun i => ss.length - (intOf i).toNat)
  case atStart => exact ⟨0, Nat.zero_le _, rfl, by simp⟩
  case round =>
    obtain ⟨k, hk, rfl, hall⟩ := hrel
    have HA := Lib.hid hall; clear hall
    by_cases hlt : k < ss.length
    · obtain ⟨b, off, rfl, hb, hc⟩ := hs.2 (by omega)
      have hck := hc k hlt
      clear hc hs
      generalize hy : ss[k] = y at *
      have HY := Lib.hid hy; clear hy
      cases he : y.toList == x.toList
      · have HE := Lib.hid he
        go_wp2
        go_round
        case rel => exact ⟨k + 1, by omega, by go_num, lall_snoc hlt HA.out (by rw [HY.out, HE.out]; rfl)⟩
        case measure => simp [intOf]; omega
      · have HE : Hid (y = x) := Lib.hid (bytes_eq (by simpa using he))
        go_wp2
        go_ret
        exact ⟨ret_bool (has_yes hlt (by rw [HY.out, HE.out])).symm, rfl⟩
    · go_wp2
      go_ret
      exact ⟨ret_bool (has_no (by omega) HA.out).symm, rfl⟩

theorem join_sum (ss : List ByteArray) : (joinB sl ss).size ≤ (ss.map fun s => s.size + 1).sum := by
  have key : ∀ xs : List (List UInt8), (jl [47] xs).length ≤ (xs.map fun x => x.length + 1).sum := by
    intro xs
    induction xs with
    | nil => simp [jl]
    | cons x r ih =>
      cases r with
      | nil => simp [jl]
      | cons y r' =>
        rw [jl_cons (by simp), List.map_cons, List.sum_cons]
        simp only [List.length_append, List.length_singleton]
        omega
  have := key (ss.map fun s => s.data.toList)
  have hs : sl.data.toList = [47] := rfl
  rw [size_list, joinB_data, hs]
  rw [List.map_map] at this
  simpa [Function.comp_def] using this
theorem sum_each {ss : List ByteArray} {n : Nat} (h : (ss.map fun s => s.size + 1).sum ≤ n) : ss.length ≤ n ∧ ∀ s ∈ ss, s.size ≤ n := by
  induction ss generalizing n with
  | nil => simp
  | cons s r ih =>
    rw [List.map_cons, List.sum_cons] at h
    obtain ⟨h1, h2⟩ := ih (n := n - (s.size + 1)) (by omega)
    refine ⟨by simp; omega, fun t ht => ?_⟩
    rcases List.mem_cons.1 ht with rfl | ht
    · omega
    · have := h2 t ht; omega

set_option maxHeartbeats 1000000 in
theorem vendorSameArgs (A : Option Addr) (ss : List ByteArray) (cap : Nat) (r : ByteArray) (w : World) (hs : Strs w A ss) (lc : ss.length ≤ cap) (cc : cap ≤ maxLen) (wr : r.size ≤ maxLen) (bs : (ss.map fun s => s.size + 1).sum ≤ 1048576) (hr : r.size ≤ 1048576) :
    Calls Try.prog 6 #[.slice A ss.length cap, .string r] w fun e w' => e = .returned (.bool true) ∧ Below w.heap.size w w' := by
  have c1 := rep_c1
  have hl : ss.length ≤ maxLen := Nat.le_trans lc cc
  obtain ⟨hn, hM⟩ := sum_each bs
  have hx : (joinB sl ss).size ≤ 1048576 := Nat.le_trans (join_sum ss) bs
  have hfit : Hid (fits2 ss = true) := Lib.hid <| by
    unfold fits2
    rw [Bool.and_eq_true, decide_eq_true_eq, List.all_eq_true]
    exact ⟨by omega, fun s h => by have := hM s h; simp; omega⟩
  have hroom : ss.length * (1048576 + sl.size) ≤ maxLen := by
    have h3 : sl.size = 1 := rfl
    have h4 : ss.length * (1048576 + 1) ≤ 1048576 * (1048576 + 1) := Nat.mul_le_mul_right _ hn
    rw [h3]; unfold maxLen; omega
  have HM := Lib.hid hM
  have HR := Lib.hid hroom
  clear hM hroom bs
  go_enter Try.func6, Try.ntmps6
  go_wp2_with fail
  refine (fits2_any _ ss _ _ hs hl).mono ?_; rintro e w' ⟨rfl, rfl⟩; rw [hfit.out]
  go_wp2_with fail
  refine (implRv_any _ _ (by decide) (by decide) _).mono ?_; rintro e w1 ⟨rfl, b1⟩
  rw [c1]
  go_wp2_with fail
  refine (join_any _ ss sl _ _ (hs.below b1) hl 1048576 HM.out HR.out).mono ?_; rintro e w' ⟨rfl, rfl⟩
  generalize hj : joinB sl ss = x at *
  clear hj c1
  go_wp2_with fail
  refine (implRv_any x vendor hx (by decide) _).mono ?_; rintro e w2 ⟨rfl, b2⟩
  rw [rep_vendor]
  have B2 : Below w.heap.size w w2 := b1.trans (b2.mono b1.size)
  clear b2
  go_wp2_with fail
  refine (split_any x _ 47 rfl (by omega) _).mono ?_
  rintro e w3 ⟨g, cap2, ps, rfl, hp, hown, b3⟩
  have B3 : Below w.heap.size w w3 := B2.trans (b3.mono B2.size)
  have hps : ps = toB (spl 47 x.data.toList) := by rw [← hp, toB_data]
  have hpm : ∀ s ∈ ps, s.size ≤ maxLen := by
    rw [hps]
    intro s h
    have := toB_size s h
    unfold maxLen; omega
  have hst := own_strs hown hpm
  have hpl : ps.length ≤ maxLen := by
    rw [hps, toB_len]
    have := spl_len 47 x.data.toList
    rw [← size_list] at this
    unfold maxLen; omega
  have HF : Hid (has ps vendor = false → rep x r = x) := Lib.hid fun h => by
    unfold has at h
    rw [List.any_eq_false, hps] at h
    exact rep_free fun hm => h vendor hm (by simp)
  clear hps hpm hp hown b3 B2
  go_wp2_with fail
  refine (has_any _ ps vendor _ _ hst hpl).mono ?_; rintro e w' ⟨rfl, rfl⟩
  cases hh : has ps vendor
  · have HG := Lib.hid (HF.out hh)
    clear hh
    go_wp2_with fail
    refine (implRv_any x r hx hr _).mono ?_; rintro e w4 ⟨rfl, b4⟩
    rw [HG.out]
    have B4 : Below w.heap.size w w4 := B3.trans (b4.mono B3.size)
    clear b4
    go_wp2_with fail
    go_ret
    exact ⟨ret_bool (by simp), B4⟩
  · clear hh
    go_wp2_with fail
    go_ret
    exact ⟨ret_bool (by simp), B3⟩

end Go.Proofs.Ytdapcnhgbmicoaa
