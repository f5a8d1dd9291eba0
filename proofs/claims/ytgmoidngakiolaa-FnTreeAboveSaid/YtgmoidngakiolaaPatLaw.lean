/-
  Plain laws: the elements of a path and of its first part. No walk.
-/
import Derived.Test.YtgmoidngakiolaaPat
namespace Go.Proofs.Ytgmoidngakiolaa
open Go.RowKit
set_option linter.unusedVariables false
set_option linter.unusedSimpArgs false

theorem cut_uniq {c : UInt8} : ∀ {a b r s : List UInt8}, c ∉ a → c ∉ b → a ++ c :: r = b ++ c :: s → a = b ∧ r = s
  | [], [], r, s, _, _, h => by simpa using h
  | [], y :: b, r, s, _, hb, h => by simp at h; exact absurd (by simp [h.1]) hb
  | x :: a, [], r, s, ha, _, h => by simp at h; exact absurd (by simp [h.1]) ha
  | x :: a, y :: b, r, s, ha, hb, h => by
    simp only [List.cons_append, List.cons.injEq] at h
    obtain ⟨e1, e2⟩ := cut_uniq (fun m => ha (List.mem_cons_of_mem _ m)) (fun m => hb (List.mem_cons_of_mem _ m)) h.2
    exact ⟨by rw [h.1, e1], e2⟩

/-- Elements of a path: not empty, without a slash. -/
def Elems (xs : List (List UInt8)) : Prop := xs ≠ [] ∧ ∀ x ∈ xs, x ≠ [] ∧ (47 : UInt8) ∉ x

theorem clean_elems {ss : List ByteArray} (h : clean ss = true) : Elems (ss.map fun s => s.data.toList) := by
  unfold clean at h
  simp only [Bool.and_eq_true, decide_eq_true_eq] at h
  refine ⟨by intro e; have := congrArg List.length e; simp at this; rw [this] at h; simp at h, ?_⟩
  intro x hx
  obtain ⟨s, hs, rfl⟩ := List.mem_map.1 hx
  have h1 := List.all_eq_true.1 h.1 s hs
  unfold clean1 hasB at h1
  simp only [Bool.and_eq_true, Bool.not_eq_true'] at h1
  refine ⟨by intro e; rw [e] at h1; simp at h1, ?_⟩
  intro hm
  have h2 := List.any_eq_false.1 h1.2 47 hm
  simp at h2

theorem jl_cons {sep : List UInt8} {x : List UInt8} {r : List (List UInt8)} (h : r ≠ []) : jl sep (x :: r) = x ++ sep ++ jl sep r := by
  cases r with
  | nil => exact absurd rfl h
  | cons y r' => rfl

theorem jl_ne {xs : List (List UInt8)} (h : Elems xs) : jl [47] xs ≠ [] := by
  cases xs with
  | nil => exact absurd rfl h.1
  | cons x r =>
    have hx := (h.2 x (by simp)).1
    cases r with
    | nil => simpa [jl] using hx
    | cons y r' => rw [jl_cons (by simp)]; simp

theorem jl_last : ∀ {xs : List (List UInt8)}, Elems xs → (jl [47] xs).getLast? ≠ some 47
  | [], h => absurd rfl h.1
  | [x], h => by
    intro e
    exact (h.2 x (by simp)).2 (List.mem_of_getLast? (by simpa [jl] using e))
  | x :: y :: r, h => by
    have h' : Elems (y :: r) := ⟨by simp, fun z hz => h.2 z (List.mem_cons_of_mem _ hz)⟩
    have hl := jl_last h'
    rw [jl_cons (by simp), List.getLast?_append]
    cases hq : (jl [47] (y :: r)).getLast? with
    | none => exact absurd (List.getLast?_eq_none_iff.1 hq) (jl_ne h')
    | some a => rw [hq] at hl; simpa using hl

theorem jl_pre : ∀ {H P : List (List UInt8)}, Elems H → Elems P → ((jl [47] P = jl [47] H ∨ jl [47] H ++ [47] <+: jl [47] P) ↔ H <+: P)
  | [], _, hH, _ => absurd rfl hH.1
  | _, [], _, hP => absurd rfl hP.1
  | [h], [p], hH, hP => by
    have s1 := (hH.2 h (by simp)).2
    have s2 := (hP.2 p (by simp)).2
    simp only [jl, List.cons_prefix_cons, List.nil_prefix, and_true]
    constructor
    · rintro (e | e)
      · exact e.symm
      · exact absurd (e.subset (by simp)) s2
    · intro e; exact .inl e.symm
  | [h], p :: q :: r, hH, hP => by
    have s1 := (hH.2 h (by simp)).2
    have s2 := (hP.2 p (by simp)).2
    rw [jl_cons (r := q :: r) (by simp)]
    simp only [jl, List.cons_prefix_cons, List.nil_prefix, and_true]
    constructor
    · rintro (e | ⟨t, e⟩)
      · exact absurd (by rw [← e]; simp) s1
      · exact (cut_uniq s1 s2 (by simpa using e)).1
    · rintro rfl
      right
      exact ⟨jl [47] (q :: r), by simp⟩
  | h :: k :: t, [p], hH, hP => by
    have s2 := (hP.2 p (by simp)).2
    rw [jl_cons (r := k :: t) (by simp)]
    simp only [jl, List.cons_prefix_cons, List.prefix_nil, reduceCtorEq, and_false, iff_false]
    rintro (e | e)
    · exact s2 (by rw [e]; simp)
    · exact s2 (e.subset (by simp))
  | h :: k :: t, p :: q :: r, hH, hP => by
    have s1 := (hH.2 h (by simp)).2
    have s2 := (hP.2 p (by simp)).2
    have ih := @jl_pre (k :: t) (q :: r) ⟨by simp, fun z hz => hH.2 z (List.mem_cons_of_mem _ hz)⟩ ⟨by simp, fun z hz => hP.2 z (List.mem_cons_of_mem _ hz)⟩
    rw [jl_cons (r := k :: t) (by simp), jl_cons (r := q :: r) (by simp), List.cons_prefix_cons, ← ih]
    constructor
    · rintro (e | ⟨z, e⟩)
      · obtain ⟨e1, e2⟩ := cut_uniq s2 s1 (by simpa using e)
        exact ⟨e1.symm, .inl e2⟩
      · obtain ⟨e1, e2⟩ := cut_uniq (r := jl [47] (k :: t) ++ 47 :: z) (s := jl [47] (q :: r)) s1 s2 (by simpa using e)
        exact ⟨e1, .inr ⟨z, by simpa using e2⟩⟩
    · rintro ⟨rfl, e | ⟨z, e⟩⟩
      · left; rw [e]
      · right; exact ⟨z, by rw [← e]; simp⟩

theorem map_pre {xs ys : List ByteArray} : (ys.map fun s => s.data.toList) <+: (xs.map fun s => s.data.toList) ↔ ys <+: xs := by
  constructor
  · intro h
    have h1 := List.prefix_iff_eq_take.1 h
    rw [List.length_map, ← List.map_take] at h1
    have : ys = xs.take ys.length := by
      apply List.ext_getElem?
      intro i
      have h2 := congrArg (fun l => l[i]?) h1
      simp only [List.getElem?_map] at h2
      generalize ys[i]? = a at *
      generalize (xs.take ys.length)[i]? = b at *
      cases a <;> cases b <;> simp at h2 ⊢
      exact WideShapes.bytes_inj (by rw [h2])
    rw [this]; exact List.take_prefix _ _
  · intro h; exact h.map _

def sl : ByteArray := ⟨#[47]⟩
theorem endSl_join {ss : List ByteArray} (h : clean ss = true) : endSl (joinB sl ss) = false := by
  unfold endSl
  rw [joinB_data, decide_eq_false_iff_not]
  exact jl_last (clean_elems h)
theorem hpp_pre {path head : List ByteArray} (hp : clean path = true) (hh : clean head = true) : hpp (joinB sl path) (joinB sl head) = isPre path head := by
  unfold hpp isPre
  rw [endSl_join hh, joinB_data, joinB_data, Bool.eq_iff_iff]
  simp only [Bool.false_and, Bool.or_false, Bool.not_false, Bool.true_and, Bool.or_eq_true, decide_eq_true_eq]
  rw [← map_pre]
  exact jl_pre (clean_elems hh) (clean_elems hp)

end Go.Proofs.Ytgmoidngakiolaa
