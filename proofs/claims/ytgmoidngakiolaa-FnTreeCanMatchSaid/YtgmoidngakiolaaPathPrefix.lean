/-
  The walk of the law FnPathPrefix.
-/
import Derived.Test.YtgmoidngakiolaaPatLaw
namespace Go.Proofs.Ytgmoidngakiolaa
open Go.RowKit
set_option linter.unusedVariables false
set_option linter.unusedSimpArgs false

theorem zzHpp_any (s p : ByteArray) (ws : s.size ≤ maxLen) (wp : p.size ≤ maxLen) (w : World) :
    Calls Try.prog 22 #[.string s, .string p] w fun e w' => e = .returned (.bool (hpp s p)) ∧ w = w' := by
  go_enter Try.func22, Try.ntmps22
  go_wp2_with (go_at_call 27; refine (hpp_any _ _ ws wp _).mono ?_; rintro e w' ⟨rfl, rfl⟩)
  go_ret
  exact ⟨rfl, rfl⟩
theorem implHpp_any (s p : ByteArray) (ws : s.size ≤ maxLen) (wp : p.size ≤ maxLen) (w : World) :
    Calls Try.prog 14 #[.string s, .string p] w fun e w' => e = .returned (.bool (hpp s p)) ∧ w = w' := by
  go_enter Try.func14, Try.ntmps14
  go_wp2_with (go_at_call 22; refine (zzHpp_any _ _ ws wp _).mono ?_; rintro e w' ⟨rfl, rfl⟩)
  go_ret
  exact ⟨rfl, rfl⟩

theorem fits2_each {ss : List ByteArray} (h : fits2 ss = true) : ss.length ≤ 2147483647 ∧ ∀ s ∈ ss, s.size ≤ 2147483647 := by
  unfold fits2 at h
  simp only [Bool.and_eq_true, decide_eq_true_eq] at h
  exact ⟨h.1, fun s hs => by simpa using List.all_eq_true.1 h.2 s hs⟩
theorem fits2_room {ss : List ByteArray} (h : fits2 ss = true) : ss.length * (2147483647 + sl.size) ≤ maxLen := by
  have h1 := (fits2_each h).1
  have h2 : ss.length * (2147483647 + sl.size) ≤ 2147483647 * (2147483647 + sl.size) := Nat.mul_le_mul_right _ h1
  have h3 : sl.size = 1 := rfl
  rw [h3] at h2 ⊢
  unfold maxLen; omega
theorem fits2_join {ss : List ByteArray} (h : fits2 ss = true) : (joinB sl ss).size ≤ 4611686016279904256 := by
  have h0 := joinB_size sl ss 2147483647 (fits2_each h).2
  have h1 := (fits2_each h).1
  have h2 : ss.length * (2147483647 + sl.size) ≤ 2147483647 * (2147483647 + sl.size) := Nat.mul_le_mul_right _ h1
  have h3 : sl.size = 1 := rfl
  rw [h3] at h0 h2
  omega

theorem joinSl_any (A : Option Addr) (ss : List ByteArray) (cap : Nat) (w : World) (hs : Strs w A ss) (hl : ss.length ≤ maxLen) (hf : fits2 ss = true) :
    Calls Try.prog 16 #[.slice A ss.length cap, .string ⟨#[47]⟩] w fun e w' => e = .returned (.string (joinB sl ss)) ∧ w = w' :=
  join_any A ss sl cap w hs hl 2147483647 (fits2_each hf).2 (fits2_room hf)

theorem hpp_c1 : hpp ⟨#[97, 47, 98]⟩ ⟨#[97]⟩ = true := by decide +kernel
theorem hpp_c2 : hpp ⟨#[97, 98]⟩ ⟨#[97]⟩ = false := by decide +kernel
theorem ppFin {path head : List ByteArray} (hp : clean path = true) (hh : clean head = true) : (hpp (joinB sl path) (joinB sl head) == isPre path head) = true := by
  rw [hpp_pre hp hh]; simp

set_option maxRecDepth 100000 in
theorem pathPrefixArgs (A : Option Addr) (xs : List ByteArray) (cap : Nat) (B : Option Addr) (ys : List ByteArray) (cap' : Nat) (w : World) (hx : Strs w A xs) (lx : xs.length ≤ cap) (cx : cap ≤ maxLen) (hy : Strs w B ys) (ly : ys.length ≤ cap') (cy : cap' ≤ maxLen) :
    Calls Try.prog 5 #[.slice A xs.length cap, .slice B ys.length cap'] w fun e w' => e = .returned (.bool true) ∧ Below w.heap.size w w' := by
  have l1 : xs.length ≤ maxLen := Nat.le_trans lx cx
  have l2 : ys.length ≤ maxLen := Nat.le_trans ly cy
  have c1 := hpp_c1
  have c2 := hpp_c2
  cases hf1 : fits2 xs
  · have HF := Lib.hid hf1; clear hf1
    go_enter Try.func5, Try.ntmps5
    go_wp2_with (go_at_call 12; refine (fits2_any _ xs _ _ hx l1).mono ?_; rintro e w' ⟨rfl, rfl⟩; rw [HF.out])
    go_ret
    exact ⟨rfl, Below.refl _ _⟩
  cases hf2 : fits2 ys
  · have HF := Lib.hid hf1; clear hf1
    have HG := Lib.hid hf2; clear hf2
    go_enter Try.func5, Try.ntmps5
    go_wp2_with fail
    refine (fits2_any _ xs _ _ hx l1).mono ?_; rintro e w' ⟨rfl, rfl⟩; rw [HF.out]
    go_wp2_with fail
    refine (fits2_any _ ys _ _ hy l2).mono ?_; rintro e w' ⟨rfl, rfl⟩; rw [HG.out]
    go_wp2_with fail
    go_ret
    exact ⟨rfl, Below.refl _ _⟩
  have m1 : (joinB sl xs).size ≤ maxLen := by have := fits2_join hf1; unfold maxLen; omega
  have m2 : (joinB sl ys).size ≤ maxLen := by have := fits2_join hf2; unfold maxLen; omega
  have HF := Lib.hid hf1; clear hf1
  have HG := Lib.hid hf2; clear hf2
  cases hc1 : clean xs
  · have HC := Lib.hid hc1; clear hc1
    go_enter Try.func5, Try.ntmps5
    go_wp2_with fail
    refine (fits2_any _ xs _ _ hx l1).mono ?_; rintro e w' ⟨rfl, rfl⟩; rw [HF.out]
    go_wp2_with fail
    refine (fits2_any _ ys _ _ hy l2).mono ?_; rintro e w' ⟨rfl, rfl⟩; rw [HG.out]
    go_wp2_with fail
    refine (isClean_any _ xs _ _ hx l1).mono ?_; rintro e w' ⟨rfl, rfl⟩; rw [HC.out]
    go_wp2_with (go_at_call 14; refine (implHpp_any _ _ (by decide) (by decide) _).mono ?_; rintro e w' ⟨rfl, rfl⟩)
    go_ret
    exact ⟨rfl, Below.refl _ _⟩
  cases hc2 : clean ys
  · have HC := Lib.hid hc1; clear hc1
    have HD := Lib.hid hc2; clear hc2
    go_enter Try.func5, Try.ntmps5
    go_wp2_with fail
    refine (fits2_any _ xs _ _ hx l1).mono ?_; rintro e w' ⟨rfl, rfl⟩; rw [HF.out]
    go_wp2_with fail
    refine (fits2_any _ ys _ _ hy l2).mono ?_; rintro e w' ⟨rfl, rfl⟩; rw [HG.out]
    go_wp2_with fail
    refine (isClean_any _ xs _ _ hx l1).mono ?_; rintro e w' ⟨rfl, rfl⟩; rw [HC.out]
    go_wp2_with fail
    refine (isClean_any _ ys _ _ hy l2).mono ?_; rintro e w' ⟨rfl, rfl⟩; rw [HD.out]
    go_wp2_with (go_at_call 14; refine (implHpp_any _ _ (by decide) (by decide) _).mono ?_; rintro e w' ⟨rfl, rfl⟩)
    go_ret
    exact ⟨rfl, Below.refl _ _⟩
  have HZ := Lib.hid (ppFin hc1 hc2)
  have HC := Lib.hid hc1; clear hc1
  have HD := Lib.hid hc2; clear hc2
  go_enter Try.func5, Try.ntmps5
  go_wp2_with fail
  refine (fits2_any _ xs _ _ hx l1).mono ?_; rintro e w' ⟨rfl, rfl⟩; rw [HF.out]
  go_wp2_with fail
  refine (fits2_any _ ys _ _ hy l2).mono ?_; rintro e w' ⟨rfl, rfl⟩; rw [HG.out]
  go_wp2_with fail
  refine (isClean_any _ xs _ _ hx l1).mono ?_; rintro e w' ⟨rfl, rfl⟩; rw [HC.out]
  go_wp2_with fail
  refine (isClean_any _ ys _ _ hy l2).mono ?_; rintro e w' ⟨rfl, rfl⟩; rw [HD.out]
  go_wp2_with fail
  refine (isPrefix_any _ _ xs ys _ _ _ hx hy l1 l2 lx cx).mono ?_; rintro e w' ⟨rfl, hd⟩
  obtain ⟨nd, rfl⟩ := hd
  go_wp2_with fail
  refine (implHpp_any _ _ (by decide) (by decide) _).mono ?_; rintro e w' ⟨rfl, rfl⟩
  go_wp2_with fail
  refine (joinSl_any _ xs _ _ (hx.drewN nd) l1 HF.out).mono ?_; rintro e w' ⟨rfl, rfl⟩
  go_wp2_with fail
  refine (joinSl_any _ ys _ _ (hy.drewN nd) l2 HG.out).mono ?_; rintro e w' ⟨rfl, rfl⟩
  go_wp2_with fail
  refine (implHpp_any _ _ m1 m2 _).mono ?_; rintro e w' ⟨rfl, rfl⟩
  go_wp2_with fail
  go_ret
  exact ⟨ret_bool HZ.out, below_drewN (Below.refl _ _) _⟩

end Go.Proofs.Ytgmoidngakiolaa
