/-
  The walks of the laws FnReplaceVendor and FnReplaceVendorSame.
-/
import Derived.Test.YtdapcnhgbmicoaaVendor
namespace Go.Proofs.Ytdapcnhgbmicoaa
open Go.RowKit
set_option linter.unusedVariables false
set_option linter.unusedSimpArgs false

theorem zzRv_any (x r : ByteArray) (hx : x.size ≤ 1048576) (hr : r.size ≤ 1048576) (w : World) :
    Calls Try.prog 25 #[.string x, .string r] w fun e w' => e = .returned (.string (rep x r)) ∧ Below w.heap.size w w' := by
  go_enter Try.func25, Try.ntmps25
  go_wp2_with fail
  refine (replaceVendor_any x r hx hr _).mono ?_; rintro e w1 ⟨rfl, b1⟩
  go_wp2_with fail
  go_ret
  exact ⟨rfl, b1⟩
theorem implRv_any (x r : ByteArray) (hx : x.size ≤ 1048576) (hr : r.size ≤ 1048576) (w : World) :
    Calls Try.prog 14 #[.string x, .string r] w fun e w' => e = .returned (.string (rep x r)) ∧ Below w.heap.size w w' := by
  go_enter Try.func14, Try.ntmps14
  go_wp2_with fail
  refine (zzRv_any x r hx hr _).mono ?_; rintro e w1 ⟨rfl, b1⟩
  go_wp2_with fail
  go_ret
  exact ⟨rfl, b1⟩
theorem rep_c1 : rep ⟨#[118, 101, 110, 100, 111, 114, 47, 97]⟩ ⟨#[118]⟩ = ⟨#[118, 47, 97]⟩ := by decide +kernel

theorem vendorArgs (x r : ByteArray) (w : World) (w0 : x.size ≤ maxLen) (w1 : r.size ≤ maxLen) (hx : x.size ≤ 1048576) (hr : r.size ≤ 1048576) :
    Calls Try.prog 5 #[.string x, .string r] w fun e w' => e = .returned (.bool true) ∧ Below w.heap.size w w' := by
  have c1 := rep_c1
  go_enter Try.func5, Try.ntmps5
  go_wp2_with fail
  refine (implRv_any _ _ (by decide) (by decide) _).mono ?_; rintro e w1 ⟨rfl, b1⟩
  rw [c1]
  go_wp2_with fail
  refine (implRv_any x r hx hr _).mono ?_; rintro e w2 ⟨rfl, b2⟩
  have B2 : Below w.heap.size w w2 := b1.trans (b2.mono b1.size)
  clear b1 b2 c1
  generalize hk : rep x r = k
  have HK := Lib.hid hk; clear hk
  go_wp2_with fail
  refine (replaced_any x r hx hr _).mono ?_; rintro e w3 ⟨rfl, b3⟩
  rw [HK.out]
  have B3 : Below w.heap.size w w3 := B2.trans (b3.mono B2.size)
  go_wp2_with fail
  go_ret
  exact ⟨ret_bool (by simp), B3⟩

end Go.Proofs.Ytdapcnhgbmicoaa
