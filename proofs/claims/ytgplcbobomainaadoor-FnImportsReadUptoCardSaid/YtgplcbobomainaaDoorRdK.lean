/-
  The steps of the plain loops, one at a time.
-/
import Derived.Test.YtgplcbobomainaaDoorRdJ
import Derived.Test.YtgplcbobomainaaDoorByt
namespace Go.Proofs.YtgplcbobomainaaDoor
set_option linter.unusedVariables false
set_option linter.unusedSimpArgs false

theorem line_on {S : RS} {c : UInt8} (h : c ≠ 10) (hg : S.go = true) : line S c = line (rb S).1 (rb S).2 := by rw [line, dif_pos ⟨h, hg⟩]
theorem line_lf (S : RS) : line S 10 = (S, 10) := by rw [line, dif_neg (fun h => h.1 rfl)]
theorem line_off {S : RS} {c : UInt8} (hg : S.go = false) : line S c = (S, c) := by rw [line, dif_neg (fun h => by rw [hg] at h; exact absurd h.2 (by simp))]
theorem block_on {S : RS} {c c1 : UInt8} (h : c ≠ 42 ∨ c1 ≠ 47) (he : S.err = .no) : block S c c1 = block (rb (bstep S)).1 c1 (rb (bstep S)).2 := by rw [block, dif_pos ⟨h, he⟩]
theorem block_end (S : RS) : block S 42 47 = (S, 42, 47) := by rw [block, dif_neg (fun h => h.1.elim (fun e => e rfl) (fun e => e rfl))]
theorem block_off {S : RS} {c c1 : UInt8} (he : S.err ≠ .no) : block S c c1 = (S, c, c1) := by rw [block, dif_neg (fun h => he h.2)]
theorem skip_sp {S : RS} {c : UInt8} (hg : S.go = true) (h : isSp c = true) : skip S c = skip (rb S).1 (rb S).2 := by rw [skip, dif_pos ⟨hg, h⟩]
theorem skip_cm {S : RS} (hg : S.go = true) : skip S 47 = skip (rb (cmt (rb S).1 (rb S).2)).1 (rb (cmt (rb S).1 (rb S).2)).2 := by
  rw [skip, dif_neg (fun h => absurd h.2 (by decide)), dif_pos ⟨hg, rfl⟩]
theorem skip_off {S : RS} {c : UInt8} (hg : S.go = false) : skip S c = (S, c) := by
  rw [skip, dif_neg (fun h => by rw [hg] at h; exact absurd h.1 (by simp)), dif_neg (fun h => by rw [hg] at h; exact absurd h.1 (by simp))]
theorem go_of {S : RS} (he : S.err = .no) (hf : S.eof = false) : S.go = true := by unfold RS.go; simp [he, hf]
theorem go_not1 {S : RS} (he : S.err ≠ .no) : S.go = false := by unfold RS.go; simp [he]
theorem go_not2 {S : RS} (hf : S.eof = true) : S.go = false := by unfold RS.go; simp [hf]
theorem skipIf_true (S : RS) (c : UInt8) : skipIf true (S, c) = skip S c := rfl
theorem skipIf_false (x : RS × UInt8) : skipIf false x = x := rfl
theorem skipIf_off {sk : Bool} {S : RS} {c : UInt8} (hg : S.go = false) : skipIf sk (S, c) = (S, c) := by
  cases sk
  · rfl
  · exact skip_off hg
/-- The six spaces. -/
theorem sp_cases {c : UInt8} : (c = 32 ∨ c = 12 ∨ c = 9 ∨ c = 13 ∨ c = 10 ∨ c = 59) ∨ isSp c = false := by
  unfold isSp
  by_cases h1 : c = 32 <;> by_cases h2 : c = 12 <;> by_cases h3 : c = 9 <;> by_cases h4 : c = 13 <;> by_cases h5 : c = 10 <;> by_cases h6 : c = 59 <;> simp [h1, h2, h3, h4, h5, h6]
theorem sp_ne {c : UInt8} (h : isSp c = false) : c ≠ 32 ∧ c ≠ 12 ∧ c ≠ 9 ∧ c ≠ 13 ∧ c ≠ 10 ∧ c ≠ 59 := by
  unfold isSp at h
  simp at h
  obtain ⟨⟨⟨⟨⟨h1, h2⟩, h3⟩, h4⟩, h5⟩, h6⟩ := h
  exact ⟨h1, h2, h3, h4, h5, h6⟩
/-- A block comment that does not end: which of two bytes says so. -/
theorem block_two {b c : UInt8} (h : b ≠ 42 ∨ c ≠ 47) : (((b.toNat : Int) == 42) = false ∧ ((b.toNat : Int) != 42) = true) ∨ (((b.toNat : Int) == 42) = true ∧ ((b.toNat : Int) != 42) = false ∧ ((c.toNat : Int) == 47) = false ∧ ((c.toNat : Int) != 47) = true) := by
  by_cases hb : b = 42
  · subst hb
    rcases h with h | h
    · exact absurd rfl h
    · have e := byte_ne (c := 47) h
      exact .inr ⟨rfl, rfl, e, by rw [bne]; exact congrArg (!·) e⟩
  · have e := byte_ne (c := 42) hb
    exact .inl ⟨e, by rw [bne]; exact congrArg (!·) e⟩
end Go.Proofs.YtgplcbobomainaaDoor
