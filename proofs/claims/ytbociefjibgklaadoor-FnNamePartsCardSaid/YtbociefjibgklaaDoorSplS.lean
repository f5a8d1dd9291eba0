/-
  A text cut at a text: plain laws.
-/
import Derived.Test.YtbociefjibgklaaDoorSpl
namespace Go.Proofs.YtbociefjibgklaaDoor
open Go.RowKit
set_option linter.unusedVariables false
set_option linter.unusedSimpArgs false

def spF : Nat → List UInt8 → List UInt8 → List (List UInt8)
  | 0, _, l => [l]
  | n + 1, sep, l => match fi sep l with | none => [l] | some i => l.take i :: spF n sep (l.drop (i + sep.length))
/-- The pieces of a text between some texts. -/
def splS (sep l : List UInt8) : List (List UInt8) := spF l.length sep l

theorem spF_more {sep : List UInt8} (hs : 0 < sep.length) : ∀ (n m : Nat) (l : List UInt8), l.length ≤ n → l.length ≤ m → spF n sep l = spF m sep l
  | 0, 0, l, _, _ => rfl
  | 0, m + 1, l, h, _ => by
    have : l = [] := List.eq_nil_of_length_eq_zero (by omega)
    subst this
    have : fi sep [] = none := fi_short (by simpa using hs)
    simp [spF, this]
  | n + 1, 0, l, _, h => by
    have : l = [] := List.eq_nil_of_length_eq_zero (by omega)
    subst this
    have : fi sep [] = none := fi_short (by simpa using hs)
    simp [spF, this]
  | n + 1, m + 1, l, h1, h2 => by
    unfold spF
    cases hf : fi sep l with
    | none => rfl
    | some i =>
      have hb := (fi_bd hf).1
      simp only
      rw [spF_more hs n m (l.drop (i + sep.length)) (by rw [List.length_drop]; omega) (by rw [List.length_drop]; omega)]
theorem splS_none {sep l : List UInt8} (h : fi sep l = none) : splS sep l = [l] := by
  unfold splS
  cases hl : l.length with
  | zero => rfl
  | succ n => unfold spF; rw [h]
theorem splS_some {sep l : List UInt8} {i : Nat} (hs : 0 < sep.length) (h : fi sep l = some i) : splS sep l = l.take i :: splS sep (l.drop (i + sep.length)) := by
  have hb := (fi_bd h).1
  unfold splS
  cases hl : l.length with
  | zero => omega
  | succ n =>
    rw [spF, h]
    simp only
    rw [spF_more hs n _ (l.drop (i + sep.length)) (by rw [List.length_drop]; omega) (Nat.le_refl _)]
theorem splS_spl (c : UInt8) : ∀ (n : Nat) (l : List UInt8), l.length ≤ n → splS [c] l = spl c l
  | 0, l, h => by
    have : l = [] := List.eq_nil_of_length_eq_zero (by omega)
    subst this
    rfl
  | n + 1, l, h => by
    cases hf : fi [c] l with
    | none => rw [splS_none hf, spl_none hf]
    | some i =>
      have hb := (fi_bd hf).1
      simp at hb
      rw [splS_some (by simp) hf, spl_some hf]
      simp only [List.length_singleton]
      rw [splS_spl c n (l.drop (i + 1)) (by rw [List.length_drop]; omega)]

end Go.Proofs.YtbociefjibgklaaDoor
