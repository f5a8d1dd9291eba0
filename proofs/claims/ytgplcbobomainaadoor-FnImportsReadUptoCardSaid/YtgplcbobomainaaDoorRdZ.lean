/-
  Of the plain reader: how many literals, how often behind an error, what is left when it stops.
-/
import Derived.Test.YtgplcbobomainaaDoorRdY
namespace Go.Proofs.YtgplcbobomainaaDoor
open Go.RowKit
open GI
set_option linter.unusedVariables false
set_option linter.unusedSimpArgs false

theorem Le.rest {S' S : RS} (h : Le S' S) : S'.rest.length ≤ S.rest.length := by
  obtain ⟨t, _, e⟩ := h.ext
  rw [e, List.length_append]; omega
theorem rb_rest {S : RS} (h : (rb S).2 ≠ 0) : (rb S).1.rest.length + 1 = S.rest.length := by
  cases hr : S.rest with
  | nil => rw [rb_nil hr] at h; exact absurd rfl h
  | cons c t =>
    by_cases hc : c = 0
    · subst hc; rw [rb_zero hr] at h; exact absurd rfl h
    · rw [rb_cons hr hc]; rfl
/-- A byte that was not looked at before was read. -/
theorem nxF_rest {S : RS} (hp : S.peek = 0) (h : (nx false S).2 ≠ 0) : (nx false S).1.rest.length + 1 ≤ S.rest.length := by
  have he := nx_err h
  rw [nx_eq he] at h ⊢
  have ef : first S = rb S := by unfold first; rw [if_pos hp]
  simp only [skipIf_false, ef] at h ⊢
  exact Nat.le_of_eq (rb_rest h)
theorem nx_peek (sk : Bool) (S : RS) : (nx sk S).1.peek = 0 := rfl
theorem syn_peek (S : RS) : (syn S).peek = S.peek := by unfold syn; split <;> rfl
theorem estep_peek (b : Bool) (S : RS) : (estep b S).peek = S.peek := by
  unfold estep
  split
  · exact syn_peek S
  · rfl
theorem after_peek (c : UInt8) {S : RS} (h : S.peek = 0) : (after c S).peek = 0 := by
  unfold after
  split
  · rfl
  · exact h
theorem raw_rest (S : RS) : S.peek = 0 → (raw S).2 = true → (raw S).1.rest.length + 1 ≤ S.rest.length := by
  induction S using raw.induct with
  | case1 S h h2 =>
    intro hp _
    rw [raw, dif_pos h, if_pos h2]
    exact nxF_rest hp (by rw [h2]; decide)
  | case2 S h h2 ih =>
    intro hp hs
    rw [raw, dif_pos h, if_neg h2] at hs ⊢
    have := ih (by rw [estep_peek]; rfl) hs
    have h1 := ((estep_le false (nx false S).1).trans (nx_le false S)).rest
    omega
  | case3 S h => intro hp hs; rw [raw, dif_neg h] at hs; exact absurd hs (by simp)
theorem quo_rest (S : RS) : S.peek = 0 → (quo S).2 = true → (quo S).1.rest.length + 1 ≤ S.rest.length := by
  induction S using quo.induct with
  | case1 S h h2 =>
    intro hp _
    rw [quo, dif_pos h, if_pos h2]
    exact nxF_rest hp (by rw [h2]; decide)
  | case2 S h h2 ih =>
    intro hp hs
    rw [quo, dif_pos h, if_neg h2] at hs ⊢
    have := ih (after_peek _ (by rw [estep_peek]; rfl)) hs
    have h1 := ((after_le (nx false S).2 _).trans ((estep_le ((nx false S).2 == 10) (nx false S).1).trans (nx_le false S))).rest
    omega
  | case3 S h => intro hp hs; rw [quo, dif_neg h] at hs; exact absurd hs (by simp)
theorem str_rest (S : RS) : (str S).2.length + (str S).1.rest.length ≤ S.rest.length := by
  have h0 := (nx_le true S).rest
  unfold str
  split
  · have h1 := raw_rest (nx true S).1 rfl
    have h2 := (raw_le (nx true S).1).rest
    cases hs : (raw (nx true S).1).2
    · simp [saved, hs]; omega
    · have := h1 hs
      simp [saved, hs]; omega
  · split
    · have h1 := quo_rest (nx true S).1 rfl
      have h2 := (quo_le (nx true S).1).rest
      cases hs : (quo (nx true S).1).2
      · simp [saved, hs]; omega
      · have := h1 hs
        simp [saved, hs]; omega
    · have h2 := (syn_le (nx true S).1).rest
      simp; omega
theorem imp_rest (S : RS) : (imp S).2.length + (imp S).1.rest.length ≤ S.rest.length := Nat.le_trans (str_rest _) (name_le S).rest
theorem grp_rest (S : RS) : (grp S).2.length + (grp S).1.rest.length ≤ S.rest.length := by
  induction S using grp.induct with
  | case1 S h ih =>
    rw [grp, dif_pos h]
    have h1 := imp_rest (pk true S).1
    have h2 := (pk_le true S).rest
    simp only [List.length_append]
    omega
  | case2 S h => rw [grp, dif_neg h]; have := (pk_le true S).rest; simpa using this
theorem decl_rest (K : RS) : (decl K).2.length + (decl K).1.rest.length ≤ K.rest.length := by
  have h0 := (pk_le true K).rest
  unfold decl
  split
  · have h1 := grp_rest (nx false (pk true K).1).1
    have h2 := (nx_le false (pk true K).1).rest
    have h3 := (nx_le false (grp (nx false (pk true K).1).1).1).rest
    simp only
    omega
  · have := imp_rest (pk true K).1
    omega

theorem grp_good (S : RS) : Good S → Good (grp S).1 := by
  induction S using grp.induct with
  | case1 S h ih => intro hg; rw [grp, dif_pos h]; exact ih (imp_good _)
  | case2 S h => intro hg; rw [grp, dif_neg h]; exact pk_nz hg
theorem decl_good {K : RS} (h : Good K) : Good (decl K).1 := by
  unfold decl
  split
  · exact nx_goodS _ _
  · exact imp_good _

/-- What the reader stops at was read. -/
theorem rb_go {S : RS} (h : (rb S).1.go = true) : (rb S).2 ≠ 0 := by
  cases hr : S.rest with
  | nil => rw [rb_nil hr] at h; simp [RS.go] at h
  | cons c t =>
    by_cases hc : c = 0
    · subst hc
      rw [rb_zero hr] at h
      by_cases he : S.err = .no <;> simp [RS.go, he] at h
    · rw [rb_cons hr hc]; exact hc
theorem skip_go (S : RS) (c : UInt8) (hc : S.go = true → c ≠ 0) : (skip S c).1.go = true → (skip S c).2 ≠ 0 := by
  induction S, c using skip.induct with
  | case1 S c h ih => rw [skip, dif_pos h]; exact ih rb_go
  | case2 S c h h2 ih => rw [skip, dif_neg h, dif_pos h2]; exact ih rb_go
  | case3 S c h h2 => rw [skip, dif_neg h, dif_neg h2]; exact hc
theorem pk_go {S : RS} (sk : Bool) (h : (pk sk S).1.go = true) : (pk sk S).2 ≠ 0 := by
  by_cases he : S.err = .no
  · rw [pk_no he] at h ⊢
    have hg : (skipIf sk (first S)).1.go = true := h
    show (skipIf sk (first S)).2 ≠ 0
    have h1 : (first S).1.go = true → (first S).2 ≠ 0 := by
      unfold first
      split
      · exact rb_go
      · rename_i hp; exact fun _ => hp
    unfold skipIf at hg ⊢
    split at hg
    · rename_i e; rw [if_pos e]; exact skip_go _ _ h1 hg
    · rename_i e; rw [if_neg e]; exact h1 hg
  · rw [pk_err he] at h
    have : S.go = true := h
    exact absurd (go_err this) he
theorem pk_buf {S : RS} (sk : Bool) (hg : Good S) (h : (pk sk S).1.go = true) : (pk sk S).1.buf ≠ [] := pk_good sk hg (pk_go sk h)
theorem ims_buf (S : RS) : Good S → (ims S).1.go = true → (ims S).1.buf ≠ [] := by
  induction S using ims.induct with
  | case1 S h ih =>
    intro hg hgo
    rw [ims, dif_pos h] at hgo ⊢
    exact ih (decl_good (kw_good _ (pk_nz hg))) hgo
  | case2 S h => intro hg hgo; rw [ims, dif_neg h] at hgo ⊢; exact pk_buf true hg hgo

/-- How often it was asked behind an error: a bound that a loop keeps. -/
def NE (S : RS) : Prop := (S.err = .no → S.nerr = 0) ∧ S.nerr ≤ 100
theorem NE.step {c : Nat} {S S' : RS} (h : NE S) (he : S.err = .no) (hb : NB c S' S) (hc : c ≤ 100) : NE S' :=
  ⟨fun e => (hb.same e).trans (h.1 he), by have := hb.le; have := h.1 he; omega⟩
theorem pk_no_of {sk : Bool} {S : RS} (h : (pk sk S).2 ≠ 0) : S.err = .no := by
  by_cases e : S.err = .no
  · exact e
  · exact absurd (by rw [pk_err e]) h
theorem pk_err_of {sk : Bool} {S : RS} (h : (pk sk S).1.err = .no) : S.err = .no := (pk_le sk S).err h
theorem ims_more {S : RS} (h : (pk true S).2 = 105) : ims S = ((ims (decl (kw importK (pk true S).1)).1).1, (decl (kw importK (pk true S).1)).2 ++ (ims (decl (kw importK (pk true S).1)).1).2) := by rw [ims, dif_pos h]
theorem ims_end {S : RS} (h : (pk true S).2 ≠ 105) : ims S = ((pk true S).1, []) := by rw [ims, dif_neg h]
theorem grp_more {S : RS} (h : (pk true S).2 ≠ 41) (he : (pk true S).1.err = .no) : grp S = ((grp (imp (pk true S).1).1).1, (imp (pk true S).1).2 ++ (grp (imp (pk true S).1).1).2) := by rw [grp, dif_pos ⟨h, he⟩]
theorem grp_end1 {S : RS} (h : (pk true S).2 = 41) : grp S = ((pk true S).1, []) := by rw [grp, dif_neg (fun x => x.1 h)]
theorem grp_end2 {S : RS} (h : (pk true S).1.err ≠ .no) : grp S = ((pk true S).1, []) := by rw [grp, dif_neg (fun x => h x.2)]
theorem whole_on {S : RS} (h : S.go = true) : whole S = whole (rb S).1 := by rw [whole, dif_pos h]
theorem whole_off {S : RS} (h : S.go = false) : whole S = S := by rw [whole, dif_neg (by rw [h]; simp)]
end Go.Proofs.YtgplcbobomainaaDoor
