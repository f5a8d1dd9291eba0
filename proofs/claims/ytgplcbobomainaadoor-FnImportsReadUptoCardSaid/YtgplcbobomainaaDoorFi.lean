/-
  Where a text stands first in another one: plain words.
-/
import Derived.Test.YtgplcbobomainaaDoorPlain
namespace Go.Proofs.YtgplcbobomainaaDoor
open Go.RowKit
set_option linter.unusedVariables false
set_option linter.unusedSimpArgs false

/-- The first place at which 'sub' stands. -/
def fi (sub : List UInt8) : List UInt8 → Option Nat
  | [] => if sub = [] then some 0 else none
  | a :: r => if sub <+: a :: r then some 0 else (fi sub r).map (· + 1)
def fidx (s sub : ByteArray) : Int := match fi sub.data.toList s.data.toList with | some n => (n : Int) | none => -1

theorem fi_pre {sub l : List UInt8} (h : sub <+: l) : fi sub l = some 0 := by
  cases l with
  | nil => have : sub = [] := List.prefix_nil.1 h; simp [fi, this]
  | cons a r => simp [fi, h]
theorem fi_short : ∀ {sub l : List UInt8}, l.length < sub.length → fi sub l = none
  | sub, [], h => by
    have : sub ≠ [] := by intro e; subst e; simp at h
    simp [fi, this]
  | sub, a :: r, h => by
    have h1 : ¬ sub <+: a :: r := fun hp => by have := hp.length_le; omega
    rw [fi, if_neg h1, fi_short (by simp at h; omega)]
    rfl
theorem fi_next {sub l : List UInt8} {k : Nat} (hk : k < l.length) (h : ¬ sub <+: l.drop k) : fi sub (l.drop k) = (fi sub (l.drop (k + 1))).map (· + 1) := by
  rw [List.drop_eq_getElem_cons hk] at h ⊢
  rw [fi, if_neg h]
theorem ext_pre (s sub : ByteArray) (k : Nat) (hk : k + sub.size ≤ s.size) : ((s.extract k (k + sub.size)).toList == sub.toList) = decide (sub.data.toList <+: s.data.toList.drop k) := by
  rw [Lib.extract_toList, Lib.toList_data, Bool.eq_iff_iff]
  simp only [beq_iff_eq, decide_eq_true_eq, size_list]
  have e : k + sub.data.toList.length - k = sub.data.toList.length := by omega
  rw [e]
  constructor
  · intro h; rw [← h]; exact List.take_prefix _ _
  · intro h; exact (List.prefix_iff_eq_take.1 h).symm

/-- What is known behind k rounds: nothing stood at a place before k. -/
def FiAt (s sub : ByteArray) (k : Nat) : Prop := fi sub.data.toList s.data.toList = (fi sub.data.toList (s.data.toList.drop k)).map (· + k)
theorem FiAt.zero (s sub : ByteArray) : FiAt s sub 0 := by unfold FiAt; simp
theorem FiAt.next {s sub : ByteArray} {k : Nat} (h : FiAt s sub k) (hk : k + sub.size ≤ s.size) (hn : decide (sub.data.toList <+: s.data.toList.drop k) = false) : FiAt s sub (k + 1) := by
  rw [decide_eq_false_iff_not] at hn
  have h0 : k < s.data.toList.length := by
    rcases Nat.lt_or_ge k s.data.toList.length with h | h
    · exact h
    · exfalso
      have e : sub.data.toList = [] := List.eq_nil_of_length_eq_zero (by simp only [size_list] at hk; omega)
      apply hn
      rw [e]; exact List.nil_prefix
  unfold FiAt at h ⊢
  rw [h, fi_next h0 hn, Option.map_map]
  congr 1
  funext x
  simp
  omega
theorem FiAt.yes {s sub : ByteArray} {k : Nat} (h : FiAt s sub k) (hy : decide (sub.data.toList <+: s.data.toList.drop k) = true) : fidx s sub = (k : Int) := by
  unfold fidx
  unfold FiAt at h
  rw [h, fi_pre (of_decide_eq_true hy)]
  simp
theorem FiAt.no {s sub : ByteArray} {k : Nat} (h : FiAt s sub k) (hk : s.size < k + sub.size) : fidx s sub = -1 := by
  unfold fidx
  unfold FiAt at h
  rcases Nat.eq_zero_or_pos sub.size with h0 | h0
  · exfalso
    have e : sub.data.toList = [] := List.eq_nil_of_length_eq_zero (by simp only [size_list] at h0; omega)
    rw [e, fi_pre List.nil_prefix, fi_pre List.nil_prefix] at h
    simp at h
    omega
  rw [h, fi_short (by rw [List.length_drop]; simp only [size_list] at hk h0; omega)]
  rfl

theorem fi_bd : ∀ {sub l : List UInt8} {n : Nat}, fi sub l = some n → n + sub.length ≤ l.length ∧ sub <+: l.drop n ∧ fi sub (l.take n) = (if sub = [] then some 0 else none)
  | sub, [], n, h => by
    unfold fi at h
    split at h
    · rename_i e; subst e; injection h with h; subst h; simp [fi]
    · cases h
  | sub, a :: r, n, h => by
    unfold fi at h
    split at h
    · rename_i e; injection h with h; subst h; exact ⟨by have := e.length_le; omega, by simpa using e, by simp [fi]⟩
    · rename_i e
      rw [Option.map_eq_some_iff] at h
      obtain ⟨m, hm, rfl⟩ := h
      obtain ⟨h1, h2, h3⟩ := fi_bd hm
      refine ⟨by simp; omega, by simpa using h2, ?_⟩
      have hs : sub ≠ [] := by rintro rfl; exact e List.nil_prefix
      rw [if_neg hs] at h3 ⊢
      rw [List.take_succ_cons, fi, if_neg, h3]
      · rfl
      · intro hp
        apply e
        exact hp.trans (by rw [← List.take_succ_cons]; exact List.take_prefix _ _)
theorem fidx_bd (s sub : ByteArray) : -1 ≤ fidx s sub ∧ (0 ≤ fidx s sub → fidx s sub + sub.size ≤ s.size) ∧ fidx s sub ≤ s.size := by
  unfold fidx
  cases h : fi sub.data.toList s.data.toList with
  | none => simp
  | some n =>
    obtain ⟨h1, _, _⟩ := fi_bd h
    simp only [size_list]
    exact ⟨by omega, fun _ => by omega, by omega⟩

def FA (sub t : List UInt8) (j : Nat) : Prop := fi sub t = (fi sub (t.drop j)).map (· + j)
theorem FA.zero (sub t : List UInt8) : FA sub t 0 := by unfold FA; simp
theorem FA.next {sub t : List UInt8} {j : Nat} (h : FA sub t j) (hj : j < t.length) (hn : ¬ sub <+: t.drop j) : FA sub t (j + 1) := by
  unfold FA at h ⊢
  rw [h, fi_next hj hn, Option.map_map]
  congr 1
  funext x
  simp
  omega
theorem FA.yes {sub t : List UInt8} {j : Nat} (h : FA sub t j) (hy : sub <+: t.drop j) : fi sub t = some j := by
  unfold FA at h
  rw [h, fi_pre hy]
  simp
theorem FA.no {sub t : List UInt8} {j : Nat} (h : FA sub t j) (hj : t.length ≤ j) (hs : sub ≠ []) : fi sub t = none := by
  unfold FA at h
  rw [h, List.drop_of_length_le hj]
  simp [fi, hs]


end Go.Proofs.YtgplcbobomainaaDoor
