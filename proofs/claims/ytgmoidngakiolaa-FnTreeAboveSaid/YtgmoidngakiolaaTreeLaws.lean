/-
  The laws FnTreeCanMatch and FnTreeAbove: the plain laws and the walks.
-/
import Derived.Test.YtgmoidngakiolaaTree
import Derived.Test.YtgmoidngakiolaaPathPrefix
namespace Go.Proofs.Ytgmoidngakiolaa
open Go.RowKit
set_option linter.unusedVariables false
set_option linter.unusedSimpArgs false

theorem hpp_name {q n : ByteArray} (hs : endSl n = false) : hpp q n = cmNo q n := by
  unfold hpp cmNo beg
  rw [hs, Bool.eq_iff_iff]
  simp only [Bool.false_and, Bool.or_false, Bool.not_false, Bool.true_and, Bool.or_eq_true, decide_eq_true_eq, ByteArray.data_append, Array.toList_append]
  have e : q.data.toList = n.data.toList ↔ q = n := ⟨WideShapes.bytes_inj, fun e => by rw [e]⟩
  rw [e]
  rfl
theorem tcm_scm {p n : ByteArray} (hs : endSl n = false) : tcm p n = scm p n := by
  unfold scm
  by_cases h : 0 ≤ fidx p dots
  · rw [if_pos h]
    unfold tcm cutP wild
    rw [if_pos h, decide_eq_true h, hpp_name hs]
    unfold cmNo cmYes beg
    generalize p.extract 0 (fidx p dots).toNat = q
    by_cases e : q = n
    · subst e; simp
    · simp [e]
  · rw [if_neg h]
    unfold tcm cutP wild
    rw [if_neg h, decide_eq_false h, hpp_name hs, ext_full]
    simp

theorem above {p n m : ByteArray} (h1 : endSl n = false) (h2 : endSl m = false) (hm : n.data.toList ++ [47] <+: m.data.toList) (h : tcm p m = true) : tcm p n = true := by
  unfold tcm at h ⊢
  rw [hpp_name h1]
  rw [hpp_name h2] at h
  generalize cutP p = q at *
  generalize wild p = b at *
  unfold cmNo beg at *
  have hs : sl.data.toList = [47] := rfl
  simp only [Bool.or_eq_true, Bool.and_eq_true, decide_eq_true_eq, ByteArray.data_append, Array.toList_append, hs] at *
  rcases h with (h | h) | ⟨hb, h⟩
  · subst h; exact .inl (.inr hm)
  · exact .inl (.inr (hm.trans ((List.prefix_append _ _).trans h)))
  · rcases Nat.lt_or_ge n.data.toList.length q.data.toList.length with hl | hl
    · exact .inl (.inr (List.prefix_of_prefix_length_le hm h (by rw [List.length_append, List.length_singleton]; omega)))
    · exact .inr ⟨hb, List.prefix_of_prefix_length_le h ((List.prefix_append _ _).trans hm) hl⟩

theorem jl_app {xs ys : List (List UInt8)} (hx : xs ≠ []) (hy : ys ≠ []) : jl [47] (xs ++ ys) = jl [47] xs ++ [47] ++ jl [47] ys := by
  induction xs with
  | nil => exact absurd rfl hx
  | cons a r ih =>
    cases r with
    | nil => rw [List.singleton_append, jl_cons hy]; rfl
    | cons b r' =>
      rw [List.cons_append, jl_cons (by simp), ih (by simp), jl_cons (r := b :: r') (by simp)]
      simp
theorem clean_app {xs ys : List ByteArray} (hx : clean xs = true) (hy : clean ys = true) : clean (xs ++ ys) = true := by
  unfold clean at *
  simp only [Bool.and_eq_true, decide_eq_true_eq] at *
  refine ⟨by rw [List.all_append, hx.1, hy.1]; rfl, by simp; omega⟩
theorem join_app {xs ys : List ByteArray} (hx : clean xs = true) (hy : clean ys = true) : joinB sl xs ++ sl ++ joinB sl ys = joinB sl (xs ++ ys) := by
  apply WideShapes.bytes_inj
  have hs : sl.data.toList = [47] := rfl
  simp only [ByteArray.data_append, Array.toList_append, joinB_data, hs, List.map_append]
  rw [jl_app (clean_elems hx).1 (clean_elems hy).1]
theorem above_join {p : ByteArray} {xs ys : List ByteArray} (hx : clean xs = true) (hy : clean ys = true) (h : tcm p (joinB sl xs ++ sl ++ joinB sl ys) = true) : tcm p (joinB sl xs) = true := by
  have hs : sl.data.toList = [47] := rfl
  refine above (endSl_join hx) ?_ ?_ h
  · rw [join_app hx hy]; exact endSl_join (clean_app hx hy)
  · simp only [ByteArray.data_append, Array.toList_append, hs]; exact List.prefix_append _ _

theorem tcm_c1 : tcm ⟨#[97, 47, 46, 46, 46]⟩ ⟨#[97, 47, 98]⟩ = true := by decide +kernel
theorem tcm_c2 : tcm ⟨#[97, 47, 98]⟩ ⟨#[97]⟩ = true := by decide +kernel
theorem tcm_c3 : tcm ⟨#[97, 47, 98]⟩ ⟨#[99]⟩ = false := by decide +kernel
theorem tcmFin {p : ByteArray} {xs : List ByteArray} (hx : clean xs = true) : (tcm p (joinB sl xs) == scm p (joinB sl xs)) = true := by
  rw [tcm_scm (endSl_join hx)]; simp

set_option maxRecDepth 100000 in
set_option maxHeartbeats 1000000 in
theorem treeArgs (p : ByteArray) (A : Option Addr) (xs : List ByteArray) (cap : Nat) (w : World) (wp : p.size ≤ maxLen) (hx : Strs w A xs) (lx : xs.length ≤ cap) (cx : cap ≤ maxLen) :
    Calls Try.prog 7 #[.string p, .slice A xs.length cap] w fun e w' => e = .returned (.bool true) ∧ Below w.heap.size w w' := by
  have l1 : xs.length ≤ maxLen := Nat.le_trans lx cx
  have c1 := tcm_c1
  have c2 := tcm_c2
  have c3 := tcm_c3
  unfold maxLen at wp
  by_cases hbig : 2147483647 < p.size
  · go_enter Try.func7, Try.ntmps7
    go_wp2_with fail
    go_ret
    exact ⟨rfl, Below.refl _ _⟩
  have hp : p.size ≤ 2147483647 := by omega
  clear hbig
  cases hf1 : fits2 xs
  · have HF := Lib.hid hf1; clear hf1
    go_enter Try.func7, Try.ntmps7
    go_wp2_with fail
    refine (fits2_any _ xs _ _ hx l1).mono ?_; rintro e w' ⟨rfl, rfl⟩; rw [HF.out]
    go_wp2_with fail
    go_ret
    exact ⟨rfl, Below.refl _ _⟩
  have m1 : (joinB sl xs).size + 1 ≤ maxLen := by have := fits2_join hf1; unfold maxLen; omega
  have m2 : (joinB sl xs).size ≤ maxLen := by omega
  have HF := Lib.hid hf1; clear hf1
  cases hc1 : clean xs
  · have HC := Lib.hid hc1; clear hc1
    go_enter Try.func7, Try.ntmps7
    go_wp2_with fail
    refine (fits2_any _ xs _ _ hx l1).mono ?_; rintro e w' ⟨rfl, rfl⟩; rw [HF.out]
    go_wp2_with fail
    refine (tcm_any _ _ (by decide) (by decide) _).mono ?_; rintro e w1 ⟨rfl, b1⟩; rw [c1]
    go_wp2_with fail
    refine (tcm_any _ _ (by decide) (by decide) _).mono ?_; rintro e w2 ⟨rfl, b2⟩; rw [c2]
    go_wp2_with fail
    refine (tcm_any _ _ (by decide) (by decide) _).mono ?_; rintro e w3 ⟨rfl, b3⟩; rw [c3]
    have B3 : Below w.heap.size w w3 := (b1.trans (b2.mono b1.size)).trans (b3.mono (Nat.le_trans b1.size b2.size))
    clear b1 b2 b3
    go_wp2_with fail
    refine (isClean_any _ xs _ _ (hx.below B3) l1).mono ?_; rintro e w' ⟨rfl, rfl⟩; rw [HC.out]
    go_wp2_with fail
    go_ret
    exact ⟨rfl, B3⟩
  have HZ := Lib.hid (tcmFin (p := p) hc1)
  have HC := Lib.hid hc1; clear hc1
  go_enter Try.func7, Try.ntmps7
  go_wp2_with fail
  refine (fits2_any _ xs _ _ hx l1).mono ?_; rintro e w' ⟨rfl, rfl⟩; rw [HF.out]
  go_wp2_with fail
  refine (tcm_any _ _ (by decide) (by decide) _).mono ?_; rintro e w1 ⟨rfl, b1⟩; rw [c1]
  go_wp2_with fail
  refine (tcm_any _ _ (by decide) (by decide) _).mono ?_; rintro e w2 ⟨rfl, b2⟩; rw [c2]
  go_wp2_with fail
  refine (tcm_any _ _ (by decide) (by decide) _).mono ?_; rintro e w3 ⟨rfl, b3⟩; rw [c3]
  have B3 : Below w.heap.size w w3 := (b1.trans (b2.mono b1.size)).trans (b3.mono (Nat.le_trans b1.size b2.size))
  clear b1 b2 b3
  go_wp2_with fail
  refine (isClean_any _ xs _ _ (hx.below B3) l1).mono ?_; rintro e w' ⟨rfl, rfl⟩; rw [HC.out]
  go_wp2_with fail
  refine (joinSl_any _ xs _ _ (hx.below B3) l1 HF.out).mono ?_; rintro e w' ⟨rfl, rfl⟩
  go_wp2_with fail
  refine (tcm_any _ _ hp m2 _).mono ?_; rintro e w4 ⟨rfl, b4⟩
  have B4 : Below w.heap.size w w4 := B3.trans (b4.mono B3.size)
  clear b4
  go_wp2_with fail
  refine (scm_any _ _ hp m1 _).mono ?_; rintro e w' ⟨rfl, rfl⟩
  go_wp2_with fail
  go_ret
  exact ⟨ret_bool HZ.out, B4⟩

set_option maxRecDepth 100000 in
set_option maxHeartbeats 1000000 in
theorem aboveArgs (p : ByteArray) (A : Option Addr) (xs : List ByteArray) (cap : Nat) (B : Option Addr) (ys : List ByteArray) (cap' : Nat) (w : World) (wp : p.size ≤ maxLen) (hx : Strs w A xs) (lx : xs.length ≤ cap) (cx : cap ≤ maxLen) (hy : Strs w B ys) (ly : ys.length ≤ cap') (cy : cap' ≤ maxLen) :
    Calls Try.prog 6 #[.string p, .slice A xs.length cap, .slice B ys.length cap'] w fun e w' => e = .returned (.bool true) ∧ Below w.heap.size w w' := by
  have l1 : xs.length ≤ maxLen := Nat.le_trans lx cx
  have l2 : ys.length ≤ maxLen := Nat.le_trans ly cy
  have c1 := tcm_c1
  have c2 := tcm_c2
  unfold maxLen at wp
  by_cases hbig : 2147483647 < p.size
  · go_enter Try.func6, Try.ntmps6
    go_wp2_with fail
    go_ret
    exact ⟨rfl, Below.refl _ _⟩
  have hp : p.size ≤ 2147483647 := by omega
  clear hbig
  cases hf1 : fits2 xs
  · have HF := Lib.hid hf1; clear hf1
    go_enter Try.func6, Try.ntmps6
    go_wp2_with fail
    refine (fits2_any _ xs _ _ hx l1).mono ?_; rintro e w' ⟨rfl, rfl⟩; rw [HF.out]
    go_wp2_with fail
    go_ret
    exact ⟨rfl, Below.refl _ _⟩
  cases hf2 : fits2 ys
  · have HF := Lib.hid hf1; clear hf1
    have HG := Lib.hid hf2; clear hf2
    go_enter Try.func6, Try.ntmps6
    go_wp2_with fail
    refine (fits2_any _ xs _ _ hx l1).mono ?_; rintro e w' ⟨rfl, rfl⟩; rw [HF.out]
    go_wp2_with fail
    refine (fits2_any _ ys _ _ hy l2).mono ?_; rintro e w' ⟨rfl, rfl⟩; rw [HG.out]
    go_wp2_with fail
    go_ret
    exact ⟨rfl, Below.refl _ _⟩
  have m1 : (joinB sl xs).size ≤ maxLen := by have := fits2_join hf1; unfold maxLen; omega
  have m2 : (joinB sl xs).size + 1 ≤ 9223372036854775807 := by have := fits2_join hf1; omega
  have m3 : (joinB sl xs).size + 1 + (joinB sl ys).size ≤ 9223372036854775807 := by have := fits2_join hf1; have := fits2_join hf2; omega
  have m4 : (joinB sl xs ++ sl ++ joinB sl ys).size ≤ maxLen := by
    rw [ByteArray.size_append, ByteArray.size_append]; have : sl.size = 1 := rfl; unfold maxLen; omega
  have HF := Lib.hid hf1; clear hf1
  have HG := Lib.hid hf2; clear hf2
  cases hc1 : clean xs
  · have HC := Lib.hid hc1; clear hc1
    go_enter Try.func6, Try.ntmps6
    go_wp2_with fail
    refine (fits2_any _ xs _ _ hx l1).mono ?_; rintro e w' ⟨rfl, rfl⟩; rw [HF.out]
    go_wp2_with fail
    refine (fits2_any _ ys _ _ hy l2).mono ?_; rintro e w' ⟨rfl, rfl⟩; rw [HG.out]
    go_wp2_with fail
    refine (tcm_any _ _ (by decide) (by decide) _).mono ?_; rintro e w1 ⟨rfl, b1⟩; rw [c1]
    go_wp2_with fail
    refine (tcm_any _ _ (by decide) (by decide) _).mono ?_; rintro e w2 ⟨rfl, b2⟩; rw [c2]
    have B2 : Below w.heap.size w w2 := b1.trans (b2.mono b1.size)
    clear b1 b2
    go_wp2_with fail
    refine (isClean_any _ xs _ _ (hx.below B2) l1).mono ?_; rintro e w' ⟨rfl, rfl⟩; rw [HC.out]
    go_wp2_with fail
    go_ret
    exact ⟨rfl, B2⟩
  cases hc2 : clean ys
  · have HC := Lib.hid hc1; clear hc1
    have HD := Lib.hid hc2; clear hc2
    go_enter Try.func6, Try.ntmps6
    go_wp2_with fail
    refine (fits2_any _ xs _ _ hx l1).mono ?_; rintro e w' ⟨rfl, rfl⟩; rw [HF.out]
    go_wp2_with fail
    refine (fits2_any _ ys _ _ hy l2).mono ?_; rintro e w' ⟨rfl, rfl⟩; rw [HG.out]
    go_wp2_with fail
    refine (tcm_any _ _ (by decide) (by decide) _).mono ?_; rintro e w1 ⟨rfl, b1⟩; rw [c1]
    go_wp2_with fail
    refine (tcm_any _ _ (by decide) (by decide) _).mono ?_; rintro e w2 ⟨rfl, b2⟩; rw [c2]
    have B2 : Below w.heap.size w w2 := b1.trans (b2.mono b1.size)
    clear b1 b2
    go_wp2_with fail
    refine (isClean_any _ xs _ _ (hx.below B2) l1).mono ?_; rintro e w' ⟨rfl, rfl⟩; rw [HC.out]
    go_wp2_with fail
    refine (isClean_any _ ys _ _ (hy.below B2) l2).mono ?_; rintro e w' ⟨rfl, rfl⟩; rw [HD.out]
    go_wp2_with fail
    go_ret
    exact ⟨rfl, B2⟩
  have HZ := Lib.hid (fun h => above_join (p := p) hc1 hc2 h)
  have HC := Lib.hid hc1; clear hc1
  have HD := Lib.hid hc2; clear hc2
  go_enter Try.func6, Try.ntmps6
  go_wp2_with fail
  refine (fits2_any _ xs _ _ hx l1).mono ?_; rintro e w' ⟨rfl, rfl⟩; rw [HF.out]
  go_wp2_with fail
  refine (fits2_any _ ys _ _ hy l2).mono ?_; rintro e w' ⟨rfl, rfl⟩; rw [HG.out]
  go_wp2_with fail
  refine (tcm_any _ _ (by decide) (by decide) _).mono ?_; rintro e w1 ⟨rfl, b1⟩; rw [c1]
  go_wp2_with fail
  refine (tcm_any _ _ (by decide) (by decide) _).mono ?_; rintro e w2 ⟨rfl, b2⟩; rw [c2]
  have B2 : Below w.heap.size w w2 := b1.trans (b2.mono b1.size)
  clear b1 b2
  go_wp2_with fail
  refine (isClean_any _ xs _ _ (hx.below B2) l1).mono ?_; rintro e w' ⟨rfl, rfl⟩; rw [HC.out]
  go_wp2_with fail
  refine (isClean_any _ ys _ _ (hy.below B2) l2).mono ?_; rintro e w' ⟨rfl, rfl⟩; rw [HD.out]
  go_wp2_with fail
  refine (joinSl_any _ xs _ _ (hx.below B2) l1 HF.out).mono ?_; rintro e w' ⟨rfl, rfl⟩
  generalize hj : joinB sl xs = j at *
  go_wp2_with fail
  refine (joinSl_any _ ys _ _ (hy.below B2) l2 HG.out).mono ?_; rintro e w' ⟨rfl, rfl⟩
  generalize hj' : joinB sl ys = j' at *
  go_wp2_with fail
  refine (tcm_any _ (j ++ sl ++ j') hp m4 _).mono ?_; rintro e w4 ⟨rfl, b4⟩
  have B4 : Below w.heap.size w w4 := B2.trans (b4.mono B2.size)
  clear b4
  cases ht : tcm p (j ++ sl ++ j')
  · go_wp2_with fail
    go_ret
    exact ⟨rfl, B4⟩
  · have HY := Lib.hid (HZ.out ht)
    clear ht
    go_wp2_with fail
    refine (tcm_any _ _ hp m1 _).mono ?_; rintro e w5 ⟨rfl, b5⟩; rw [HY.out]
    have B5 : Below w.heap.size w w5 := B4.trans (b5.mono B4.size)
    clear b5
    go_wp2_with fail
    go_ret
    exact ⟨rfl, B5⟩

end Go.Proofs.Ytgmoidngakiolaa
