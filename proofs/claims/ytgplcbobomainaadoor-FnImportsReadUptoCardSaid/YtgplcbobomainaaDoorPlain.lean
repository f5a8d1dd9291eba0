/-
  Plain laws on texts: what 'Begins' and its kin reckon. No program in sight.
-/
import Derived.WalkKit
import Derived.WideShapes
import Derived.Lib.Hide
import Derived.Lib.Strings
namespace Go.Proofs.YtgplcbobomainaaDoor
open Go.RowKit
set_option linter.unusedVariables false
set_option linter.unusedSimpArgs false

theorem size_list (s : ByteArray) : s.size = s.data.toList.length := by simp

theorem app_le {c s : ByteArray} (k : Nat) (hc : c.size ≤ k) (h : s.size + k ≤ maxLen) : (c ++ s).size ≤ maxLen := by
  rw [ByteArray.size_append]; omega

/-- A text begins with another one. -/
def beg (s h : ByteArray) : Bool := decide (h.data.toList <+: s.data.toList)

theorem beg_of_lt {s h : ByteArray} (hl : s.size < h.size) : beg s h = false := by
  unfold beg
  rw [decide_eq_false_iff_not]
  intro hp
  have := hp.length_le
  simp at this
  omega

theorem beg_ext (s h : ByteArray) : ((s.extract 0 h.size).toList == h.toList) = beg s h := by
  unfold beg
  rw [Lib.extract_toList, Lib.toList_data, Bool.eq_iff_iff]
  simp only [List.drop_zero, Nat.sub_zero, beq_iff_eq, decide_eq_true_eq, size_list]
  constructor
  · intro e; rw [← e]; exact List.take_prefix _ _
  · intro e; exact (List.prefix_iff_eq_take.1 e).symm

/-- An import path is local. -/
def loc (s : ByteArray) : Bool := s.toList == [46] || s.toList == [46, 46] || beg s ⟨#[46, 47]⟩ || beg s ⟨#[46, 46, 47]⟩

theorem loc_one (s : ByteArray) : loc (⟨#[46, 47]⟩ ++ s) = true := by
  unfold loc beg
  simp [ByteArray.data_append]

theorem loc_two (s : ByteArray) : loc (⟨#[46, 46, 47]⟩ ++ s) = true := by
  unfold loc beg
  simp [ByteArray.data_append]

theorem loc_3 : loc ⟨#[46, 47, 97]⟩ = true := by
  unfold loc beg
  simp

end Go.Proofs.YtgplcbobomainaaDoor
