/-
  Spaces and comments at the beginning of a text: the plain words.
-/
import Derived.Test.YtdapcnhgbmicoaaFi
namespace Go.Proofs.Ytdapcnhgbmicoaa
open Go.RowKit
set_option linter.unusedVariables false
set_option linter.unusedSimpArgs false

def isSp (b : UInt8) : Bool := b == 32 || b == 9 || b == 10 || b == 13
def lineR (t : List UInt8) : List UInt8 := match fi [10] t with | some i => t.drop (i + 1) | none => []
def blockR (t : List UInt8) : List UInt8 := match fi [42, 47] t with | some i => t.drop (i + 2) | none => []
def slashR : List UInt8 → Option (List UInt8)
  | 47 :: t => some (lineR t)
  | 42 :: t => some (blockR t)
  | _ => none
/-- One step: what is left behind a space or a comment, if the text begins with one. -/
def stp : List UInt8 → Option (List UInt8)
  | [] => none
  | c :: r => if isSp c then some r else if c = 47 then slashR r else none
def skpF : Nat → List UInt8 → List UInt8
  | 0, l => l
  | n + 1, l => match stp l with | none => l | some l' => skpF n l'
def skp (l : List UInt8) : List UInt8 := skpF l.length l

theorem lineR_len (t : List UInt8) : (lineR t).length ≤ t.length := by
  unfold lineR; split <;> simp
theorem blockR_len (t : List UInt8) : (blockR t).length ≤ t.length := by
  unfold blockR; split <;> simp
theorem stp_len {l l' : List UInt8} (h : stp l = some l') : l'.length < l.length := by
  cases l with
  | nil => simp [stp] at h
  | cons c r =>
    rw [stp] at h
    split at h
    · injection h with h; subst h; simp
    · split at h
      · unfold slashR at h
        split at h
        · injection h with h; subst h; rename_i t; have := lineR_len t; simp; omega
        · injection h with h; subst h; rename_i t; have := blockR_len t; simp; omega
        · cases h
      · cases h
theorem skpF_more : ∀ (n m : Nat) (l : List UInt8), l.length ≤ n → l.length ≤ m → skpF n l = skpF m l
  | 0, 0, l, _, _ => rfl
  | 0, m + 1, l, h, _ => by
    have : l = [] := List.eq_nil_of_length_eq_zero (by omega)
    subst this; simp [skpF, stp]
  | n + 1, 0, l, _, h => by
    have : l = [] := List.eq_nil_of_length_eq_zero (by omega)
    subst this; simp [skpF, stp]
  | n + 1, m + 1, l, h1, h2 => by
    unfold skpF
    cases hs : stp l with
    | none => rfl
    | some l' =>
      have := stp_len hs
      exact skpF_more n m l' (by omega) (by omega)
theorem skp_stop {l : List UInt8} (h : stp l = none) : skp l = l := by
  unfold skp
  cases hl : l.length with
  | zero => rfl
  | succ n => unfold skpF; rw [h]
theorem skp_step {l l' : List UInt8} (h : stp l = some l') : skp l = skp l' := by
  have hlt := stp_len h
  unfold skp
  cases hl : l.length with
  | zero => omega
  | succ n =>
    rw [skpF, h]
    exact skpF_more _ _ _ (by omega) (Nat.le_refl _)
theorem skp_nil : skp [] = [] := rfl

theorem skp_sp {c : UInt8} {r : List UInt8} (h : isSp c = true) : skp (c :: r) = skp r := skp_step (by simp [stp, h])
theorem skp_line (t : List UInt8) : skp (47 :: 47 :: t) = skp (lineR t) := skp_step (by simp [stp, isSp, slashR])
theorem skp_block (t : List UInt8) : skp (47 :: 42 :: t) = skp (blockR t) := skp_step (by simp [stp, isSp, slashR])
theorem skp_slash {l : List UInt8} {r : List UInt8} (hl : l = 47 :: r) (h1 : ¬ [47, 47] <+: l) (h2 : ¬ [47, 42] <+: l) : skp l = l := by
  apply skp_stop
  subst hl
  rw [stp]
  rw [if_neg (by simp [isSp]), if_pos rfl]
  unfold slashR
  split
  · exact absurd (by simp) h1
  · exact absurd (by simp) h2
  · rfl
theorem skp_other {c : UInt8} {r : List UInt8} (h1 : isSp c = false) (h2 : c ≠ 47) : skp (c :: r) = c :: r := by
  apply skp_stop; simp [stp, h1, h2]

theorem fi_two (t : List UInt8) : fi [10] (47 :: 47 :: t) = (fi [10] t).map (· + 2) := by
  have h1 : ¬ ([10] : List UInt8) <+: 47 :: 47 :: t := by simp
  have h2 : ¬ ([10] : List UInt8) <+: 47 :: t := by simp
  rw [fi, if_neg h1, fi, if_neg h2, Option.map_map]
  rfl
theorem lineR_at {l t : List UInt8} (hl : l = 47 :: 47 :: t) {i : Nat} (h : fi [10] l = some i) : i + 1 ≤ l.length ∧ skp l = skp (l.drop (i + 1)) := by
  have hb := (fi_bd h).1
  refine ⟨hb, ?_⟩
  subst hl
  rw [skp_line]
  rw [fi_two, Option.map_eq_some_iff] at h
  obtain ⟨j, hj, rfl⟩ := h
  unfold lineR
  rw [hj]
  rfl
theorem lineR_no {l t : List UInt8} (hl : l = 47 :: 47 :: t) (h : fi [10] l = none) : skp l = [] := by
  subst hl
  rw [skp_line]
  rw [fi_two, Option.map_eq_none_iff] at h
  unfold lineR
  rw [h]
  rfl
theorem blockR_at {l t : List UInt8} (hl : l = 47 :: 42 :: t) {i : Nat} (h : fi [42, 47] t = some i) : i + 2 ≤ t.length ∧ skp l = skp (t.drop (i + 2)) := by
  refine ⟨(fi_bd h).1, ?_⟩
  subst hl
  rw [skp_block]
  unfold blockR
  rw [h]
theorem blockR_no {l t : List UInt8} (hl : l = 47 :: 42 :: t) (h : fi [42, 47] t = none) : skp l = [] := by
  subst hl
  rw [skp_block]
  unfold blockR
  rw [h]
  rfl
theorem pre_two {l : List UInt8} {a b : UInt8} (h : [a, b] <+: l) : ∃ t, l = a :: b :: t := by
  obtain ⟨t, ht⟩ := h; exact ⟨t, ht.symm⟩

end Go.Proofs.Ytdapcnhgbmicoaa
