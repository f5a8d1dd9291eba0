/-
  A text cut at a byte: plain laws.
-/
import Derived.Test.YtbociefjibgklaaDoorFi
import Derived.Lib.Join
namespace Go.Proofs.YtbociefjibgklaaDoor
open Go.RowKit
set_option linter.unusedVariables false
set_option linter.unusedSimpArgs false

/-- The pieces of a text between some bytes. -/
def spl (c : UInt8) : List UInt8 → List (List UInt8)
  | [] => [[]]
  | x :: r => if x = c then [] :: spl c r else ((x :: (spl c r).headD []) :: (spl c r).tail)

theorem spl_ne (c : UInt8) (l : List UInt8) : spl c l ≠ [] := by
  cases l with
  | nil => simp [spl]
  | cons x r => rw [spl]; split <;> simp
theorem spl_len (c : UInt8) (l : List UInt8) : (spl c l).length ≤ l.length + 1 := by
  induction l with
  | nil => simp [spl]
  | cons x r ih =>
    rw [spl]
    split
    · simp; omega
    · have := spl_ne c r
      cases h : spl c r with
      | nil => exact absurd h this
      | cons a t => rw [h] at ih; simp at ih ⊢; omega
theorem spl_none {c : UInt8} {l : List UInt8} (h : fi [c] l = none) : spl c l = [l] := by
  induction l with
  | nil => rfl
  | cons x r ih =>
    rw [fi] at h
    split at h
    · cases h
    · rename_i hn
      have hx : x ≠ c := by rintro rfl; exact hn ⟨r, rfl⟩
      rw [spl, if_neg hx, ih (by simpa using h)]
      rfl
theorem spl_some {c : UInt8} : ∀ {l : List UInt8} {i : Nat}, fi [c] l = some i → spl c l = l.take i :: spl c (l.drop (i + 1))
  | [], i, h => by simp [fi] at h
  | x :: r, i, h => by
    rw [fi] at h
    split at h
    · rename_i hp
      injection h with h
      subst h
      obtain ⟨t, ht⟩ := hp
      have hx : x = c := by injection ht with a _; exact a.symm
      rw [spl, if_pos hx]
      rfl
    · rename_i hn
      rw [Option.map_eq_some_iff] at h
      obtain ⟨j, hj, rfl⟩ := h
      have hx : x ≠ c := by rintro rfl; exact hn ⟨r, rfl⟩
      rw [spl, if_neg hx, spl_some hj]
      rfl
theorem spl_size {c : UInt8} {l : List UInt8} : ∀ e ∈ spl c l, e.length ≤ l.length := by
  induction l with
  | nil => simp [spl]
  | cons x r ih =>
    intro e he
    rw [spl] at he
    split at he
    · rcases List.mem_cons.1 he with rfl | he
      · simp
      · have := ih e he; simp; omega
    · have hne := spl_ne c r
      cases h : spl c r with
      | nil => exact absurd h hne
      | cons a t =>
        rw [h] at he ih
        rcases List.mem_cons.1 he with rfl | he
        · have := ih a (by simp); simp; omega
        · have := ih e (List.mem_cons_of_mem _ (by simpa using he)); simp; omega

/-- Lists one behind the other with a sign between them. -/
def jl (sep : List UInt8) : List (List UInt8) → List UInt8
  | [] => []
  | [x] => x
  | x :: y :: r => x ++ sep ++ jl sep (y :: r)
theorem jl_cons {sep : List UInt8} {x : List UInt8} {r : List (List UInt8)} (h : r ≠ []) : jl sep (x :: r) = x ++ sep ++ jl sep r := by
  cases r with
  | nil => exact absurd rfl h
  | cons y r' => rfl
theorem jl_spl (c : UInt8) (l : List UInt8) : jl [c] (spl c l) = l := by
  induction l with
  | nil => rfl
  | cons x r ih =>
    rw [spl]
    split
    · rename_i hx
      rw [jl_cons (spl_ne c r), ih, hx]
      rfl
    · have hne := spl_ne c r
      cases h : spl c r with
      | nil => exact absurd h hne
      | cons a t =>
        rw [h] at ih
        cases t with
        | nil => simp only [List.headD_cons, List.tail_cons, jl] at ih ⊢; rw [ih]
        | cons b t' =>
          simp only [List.headD_cons, List.tail_cons]
          rw [jl_cons (by simp)] at ih ⊢
          rw [← ih]
          simp
theorem jl_lib (xs : List (List UInt8)) (sep : List UInt8) : jl sep xs = Lib.join xs sep := by
  unfold Lib.join
  induction xs with
  | nil => rfl
  | cons x r ih =>
    cases r with
    | nil => simp [jl, List.intercalate]
    | cons y r' =>
      rw [jl_cons (by simp), ih]
      simp [List.intercalate]
theorem jl_snoc (sep : List UInt8) (xs : List (List UInt8)) (x : List UInt8) (h : xs ≠ []) : jl sep (xs ++ [x]) = jl sep xs ++ sep ++ x := by
  induction xs with
  | nil => exact absurd rfl h
  | cons a r ih =>
    cases r with
    | nil => simp [jl]
    | cons b r' =>
      have := ih (by simp)
      simp only [List.cons_append] at this ⊢
      rw [jl, this, jl]
      simp
theorem jl_size (sep : List UInt8) (M : Nat) : ∀ xs : List (List UInt8), (∀ x ∈ xs, x.length ≤ M) → (jl sep xs).length ≤ xs.length * (M + sep.length)
  | [], _ => by simp [jl]
  | [x], h => by have := h x (by simp); simp [jl]; omega
  | x :: y :: r, h => by
    have h1 := h x (by simp)
    have h2 := jl_size sep M (y :: r) (fun z hz => h z (List.mem_cons_of_mem _ hz))
    rw [jl]
    simp only [List.length_append, List.length_cons] at h2 ⊢
    have e : (r.length + 1 + 1) * (M + sep.length) = (r.length + 1) * (M + sep.length) + (M + sep.length) := Nat.succ_mul _ _
    rw [e]
    omega
theorem fi_infix {e : List UInt8} : ∀ (a b : List UInt8), fi e (a ++ e ++ b) ≠ none
  | [], b => by rw [List.nil_append, fi_pre ⟨b, rfl⟩]; simp
  | x :: a, b => by
    rw [List.cons_append, List.cons_append, fi]
    split
    · simp
    · have := fi_infix (e := e) a b
      cases h : fi e (a ++ e ++ b) with
      | none => exact absurd h this
      | some n => simp
theorem spl_infix {c : UInt8} {l : List UInt8} : ∀ e ∈ spl c l, ∃ a b, l = a ++ e ++ b := by
  have key : ∀ (xs : List (List UInt8)) (e : List UInt8), e ∈ xs → ∃ a b, jl [c] xs = a ++ e ++ b := by
    intro xs
    induction xs with
    | nil => intro e he; cases he
    | cons x r ih =>
      intro e he
      cases r with
      | nil =>
        rw [List.mem_singleton] at he
        subst he
        exact ⟨[], [], by simp [jl]⟩
      | cons y r' =>
        rw [jl_cons (by simp)]
        rcases List.mem_cons.1 he with rfl | he
        · exact ⟨[], [c] ++ jl [c] (y :: r'), by simp⟩
        · obtain ⟨a, b, h⟩ := ih e he
          exact ⟨x ++ [c] ++ a, b, by rw [h]; simp⟩
  intro e he
  have := key _ e he
  rwa [jl_spl] at this

/-- All pieces but the last one, each turned by f. -/
def repTo {α : Type} (f : α → α) (ss : List α) (k : Nat) : List α := (ss.take k).map f ++ ss.drop k
theorem repTo_zero {α : Type} (f : α → α) (ss : List α) : repTo f ss 0 = ss := by simp [repTo]
theorem repTo_len {α : Type} (f : α → α) (ss : List α) (k : Nat) : (repTo f ss k).length = ss.length := by simp [repTo]; omega
theorem repTo_at {α : Type} (f : α → α) (ss : List α) (k : Nat) (h : k < ss.length) : (repTo f ss k)[k]'(by rw [repTo_len]; exact h) = ss[k] := by
  unfold repTo
  rw [List.getElem_append_right (by simp; omega)]
  simp
  congr 1
  omega
theorem repTo_next {α : Type} (f : α → α) (ss : List α) (k : Nat) (h : k < ss.length) : (repTo f ss k).set k (f ss[k]) = repTo f ss (k + 1) := by
  unfold repTo
  rw [List.set_append_right _ _ (by simp; omega)]
  have e : k - ((ss.take k).map f).length = 0 := by simp; omega
  rw [e, List.drop_eq_getElem_cons h, List.set_cons_zero, List.take_succ_eq_append_getElem h, List.map_append]
  simp
theorem repTo_same {α : Type} (f : α → α) (ss : List α) (k : Nat) (h : k < ss.length) (e : f ss[k] = ss[k]) : repTo f ss (k + 1) = repTo f ss k := by
  rw [← repTo_next f ss k h, e]
  have := repTo_at f ss k h
  conv => lhs; rw [← this]
  exact List.set_getElem_self _
theorem repTo_id {α : Type} (f : α → α) (ss : List α) (k : Nat) (h : ∀ s ∈ ss, f s = s) : repTo f ss k = ss := by
  unfold repTo
  have : (ss.take k).map f = ss.take k := by
    conv => rhs; rw [← List.map_id (ss.take k)]
    exact List.map_congr_left fun s hs => h s (List.mem_of_mem_take hs)
  rw [this, List.take_append_drop]

end Go.Proofs.YtbociefjibgklaaDoor
