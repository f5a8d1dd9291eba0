/-
  The package's own list of words answers as the reference's: the plain law.
-/
import Derived.Test.YtbociefjibgklaaDoorNameB
import Derived.Test.YtbociefjibgklaaDoorSplS
namespace Go.Proofs.YtbociefjibgklaaDoor
open Go.RowKit
set_option linter.unusedVariables false
set_option linter.unusedSimpArgs false

/-- What goodOSArchFile asks for, of its list of words. -/
def good (ws : List (List UInt8)) : List (List UInt8) :=
  let last := ws.getD (ws.length - 1) []
  let prev := ws.getD (ws.length - 2) []
  if (decide (2 ≤ ws.length) && osKeys.contains prev && arKeys.contains last) = true then [prev, last]
  else if (decide (1 ≤ ws.length) && (osKeys.contains last || arKeys.contains last)) = true then [last]
  else []

theorem os_nil : osKeys.contains [] = false := by decide +kernel
theorem ar_nil : arKeys.contains [] = false := by decide +kernel
theorem os_nil' : ¬ ([] : List UInt8) ∈ osKeys := fun h => by have := List.contains_iff_mem.2 h; rw [os_nil] at this; cases this
theorem ar_nil' : ¬ ([] : List UInt8) ∈ arKeys := fun h => by have := List.contains_iff_mem.2 h; rw [ar_nil] at this; cases this

theorem dropT_cons (x : List UInt8) (T : List (List UInt8)) (hT : T ≠ []) : ∃ T', (∀ y, dropT (y :: T) = y :: T') := by
  have hl : 0 < T.length := List.length_pos_iff.2 hT
  refine ⟨if T.getD (T.length - 1) [] = testL then T.take (T.length - 1) else T, fun y => ?_⟩
  unfold dropT
  have e1 : (y :: T).length - 1 = T.length := by simp
  have e2 : (y :: T).getD T.length [] = T.getD (T.length - 1) [] := by
    obtain ⟨k, hk⟩ : ∃ k, T.length = k + 1 := ⟨T.length - 1, by omega⟩
    rw [hk]; simp [List.getD_cons_succ]
  have e3 : (y :: T).take T.length = y :: T.take (T.length - 1) := by
    obtain ⟨k, hk⟩ : ∃ k, T.length = k + 1 := ⟨T.length - 1, by omega⟩
    rw [hk]; simp [List.take_succ_cons]
  rw [e1, e2, e3]
  by_cases h : T.getD (T.length - 1) [] = testL
  · rw [if_pos ⟨by simp; omega, h⟩, if_pos h]
  · rw [if_neg (fun hh => h hh.2), if_neg h]

theorem good_implied (x : List UInt8) (T : List (List UInt8)) (hT : T ≠ []) : good (dropT ([] :: T)) = implied (dropT (x :: T)) := by
  obtain ⟨T', h⟩ := dropT_cons x T hT
  rw [h, h]
  rcases Nat.lt_or_ge T'.length 1 with h0 | h0
  · have : T' = [] := List.eq_nil_of_length_eq_zero (by omega)
    subst this
    unfold good implied
    simp [os_nil', ar_nil']
  · obtain ⟨k, hk⟩ : ∃ k, T'.length = k + 1 := ⟨T'.length - 1, by omega⟩
    have l1 : ∀ y : List UInt8, (y :: T').length = k + 2 := fun y => by simp [hk]
    have g1 : ∀ y : List UInt8, (y :: T').getD (k + 1) [] = T'.getD k [] := fun y => by simp [List.getD_cons_succ]
    unfold good implied
    simp only [l1, g1, show k + 2 - 1 = k + 1 by omega, show k + 2 - 2 = k by omega]
    cases k with
    | zero =>
      simp [os_nil']
    | succ j =>
      have g2 : ∀ y : List UInt8, (y :: T').getD (j + 1) [] = T'.getD j [] := fun y => by simp [List.getD_cons_succ]
      simp only [g2, show ¬ (j + 1 + 2 < 2) by omega, if_false, show (2 ≤ j + 1 + 2) = True by simp, show (2 < j + 1 + 2) = True by simp, show (1 ≤ j + 1 + 2) = True by simp, decide_true, Bool.true_and]
      rw [Bool.and_comm]

theorem own_words {a : List UInt8} {i : Nat} (h : fi [95] a = some i) : splS [95] (a.drop i) = [] :: spl 95 (a.drop (i + 1)) ∧ spl 95 a = a.take i :: spl 95 (a.drop (i + 1)) := by
  refine ⟨?_, spl_some h⟩
  obtain ⟨t, ht⟩ := (fi_bd h).2.1
  have hd : a.drop i = 95 :: t := ht.symm
  have ht' : a.drop (i + 1) = t := by
    have : a.drop (i + 1) = (a.drop i).drop 1 := by rw [List.drop_drop]
    rw [this, hd]; rfl
  rw [splS_spl 95 _ _ (Nat.le_refl _), hd, ht']
  simp [spl]

/-- The words of the package's own list, where a name has an underscore ahead of its dot. -/
def ownWords (name : List UInt8) (i : Nat) : List (List UInt8) := dropT (splS [95] ((stem name).drop i))
theorem own_good {name : List UInt8} {i : Nat} (h : fi [95] (stem name) = some i) : good (ownWords name i) = implied (wordsOf name) := by
  obtain ⟨h1, h2⟩ := own_words h
  unfold ownWords wordsOf
  rw [h1, h2]
  exact good_implied _ _ (spl_ne _ _)
theorem none_implied {name : List UInt8} (h : fi [95] (stem name) = none) : implied (wordsOf name) = [] := by
  unfold wordsOf
  rw [spl_none h]
  have e : dropT [stem name] = [stem name] := by unfold dropT; rw [if_neg (by simp)]
  rw [e]
  unfold implied
  rfl

end Go.Proofs.YtbociefjibgklaaDoor
