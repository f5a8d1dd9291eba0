/-
  The walk of the law FnSkipSpaces.
-/
import Derived.Test.YtdapcnhgbmicoaaSkipped
import Derived.Lib.ConvBytes
namespace Go.Proofs.Ytdapcnhgbmicoaa
open Go.RowKit
set_option linter.unusedVariables false
set_option linter.unusedSimpArgs false

theorem bytesWorld_below (w : World) (e : TypeId) (s : ByteArray) : Below w.heap.size w (Lib.bytesWorld w e s) :=
  ⟨rfl, rfl, rfl, by rw [Lib.bytesWorld_size]; omega, fun k hk => Lib.bytesWorld_at_old w e s k hk⟩
theorem bytesWorld_bts (w : World) (e : TypeId) (s : ByteArray) : Bts (Lib.bytesWorld w e s) (some ⟨w.heap.size, 0, none⟩) s.data.toList := by
  refine Bts.mk_ (by rw [Lib.bytesWorld_size]; omega) fun i hi => ?_
  rw [Nat.zero_add, Lib.bytesWorld_cell w e s i (by simpa using hi)]
  rw [List.getD_eq_getElem?_getD, List.getElem?_eq_getElem hi]
  rfl

theorem skp_c1 : BA (skp [32, 97]) = ⟨#[97]⟩ := by decide +kernel
theorem impl_c1 (w : World) (p : Nat × Nat) :
    Calls Try.prog 10 #[.slice (some ⟨w.heap.size, 0, none⟩) 2 2] (w.alloc (.cells #[.int .u8 32, .int .u8 97] 5 p)) fun e w' => e = .returned (.string ⟨#[97]⟩) ∧ Below w.heap.size w w' := by
  refine (implSkip_any _ [32, 97] _ _ rfl _ (Bts.newRow _ _ _ _ _ rfl) (by decide)).mono ?_
  rintro e w' ⟨rfl, hb⟩
  rw [skp_c1]
  exact ⟨rfl, (below_new _ _).trans (hb.mono (by simp))⟩

set_option maxHeartbeats 1000000 in
theorem skipSpacesArgs (s : ByteArray) (w : World) (ws : s.size ≤ maxLen) :
    Calls Try.prog 4 #[.string s] w fun e w' => e = .returned (.bool true) ∧ Below w.heap.size w w' := by
  have ms := ws
  unfold maxLen at ws
  have kc := fun (w : World) (C : Array Value) (n c : Nat) => Lib.run_convert_bytes_const (P := Try.prog) w 26 5 C n c Try.underlying26 Try.underlying5
  by_cases hbig : 2147483647 < s.size
  · go_enter Try.func4, Try.ntmps4
    go_wp2_with fail
    go_ret
    exact ⟨rfl, Below.refl _ _⟩
  have hs : s.size ≤ 2147483647 := by omega
  clear hbig
  cases ha : asc s
  · have HA := Lib.hid ha; clear ha
    go_enter Try.func4, Try.ntmps4
    go_wp2_with fail
    refine (isASCII_any s ms _).mono ?_; rintro e w' ⟨rfl, rfl⟩; rw [HA.out]
    go_wp2_with fail
    refine (impl_c1 w _).mono ?_; rintro e w1 ⟨rfl, b1⟩
    go_wp2_with fail
    go_ret
    exact ⟨rfl, b1⟩
  · have HA := Lib.hid ha; clear ha
    have kb := fun (w : World) => Lib.run_convert_string_bytes (P := Try.prog) w 9 26 5 s Try.underlying9 Try.underlying26 Try.underlying5
    go_enter Try.func4, Try.ntmps4
    go_wp2_with fail
    refine (isASCII_any s ms _).mono ?_; rintro e w' ⟨rfl, rfl⟩; rw [HA.out]
    go_wp2_with fail
    refine (impl_c1 w _).mono ?_; rintro e w1 ⟨rfl, b1⟩
    go_wp2_with fail
    refine (implSkip_any _ s.data.toList _ _ (by simp) _ (bytesWorld_bts _ _ _) (by omega)).mono ?_
    rintro e w2 ⟨rfl, b2⟩
    have B2 : Below w.heap.size w w2 := (b1.trans ((bytesWorld_below w1 _ s).mono b1.size)).trans (b2.mono (Nat.le_trans b1.size (bytesWorld_below w1 _ s).size))
    clear b1 b2
    generalize hk : BA (skp s.data.toList) = k at *
    have HK := Lib.hid hk; clear hk
    go_wp2_with fail
    refine (skipped_any s (by omega) _).mono ?_; rintro e w' ⟨rfl, rfl⟩; rw [HK.out]
    go_wp2_with fail
    go_ret
    exact ⟨ret_bool (by simp), B2⟩

end Go.Proofs.Ytdapcnhgbmicoaa
