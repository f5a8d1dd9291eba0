/-
  How often a reader is asked behind an error; what was looked at was read.
-/
import Derived.Test.YtgplcbobomainaaDoorRdK
namespace Go.Proofs.YtgplcbobomainaaDoor
set_option linter.unusedVariables false
set_option linter.unusedSimpArgs false

structure NB (c : Nat) (S' S : RS) : Prop where
  same : S'.err = .no → S'.nerr = S.nerr
  le : S'.nerr ≤ S.nerr + c
theorem NB.refl (S : RS) : NB 0 S S := ⟨fun _ => rfl, Nat.le_refl _⟩
theorem NB.of {S' S : RS} (h : S'.nerr = S.nerr) : NB 0 S' S := ⟨fun _ => h, by omega⟩
theorem NB.trans {a b : Nat} {S2 S1 S : RS} (h : NB a S1 S) (k : NB b S2 S1) (hl : Le S2 S1) : NB (a + b) S2 S :=
  ⟨fun e => (k.same e).trans (h.same (hl.err e)), by have := h.le; have := k.le; omega⟩
theorem NB.mono {a b : Nat} {S' S : RS} (h : NB a S' S) (hab : a ≤ b) : NB b S' S := ⟨h.same, by have := h.le; omega⟩

theorem rb_nerr (S : RS) : (rb S).1.nerr = S.nerr := by
  cases h : S.rest with
  | nil => rw [rb_nil h]
  | cons c t =>
    by_cases hc : c = 0
    · subst hc; rw [rb_zero h]
    · rw [rb_cons h hc]
theorem syn_nerr (S : RS) : (syn S).nerr = S.nerr := by unfold syn; split <;> rfl
theorem line_nerr (S : RS) (c : UInt8) : (line S c).1.nerr = S.nerr := by
  induction S, c using line.induct with
  | case1 S c h ih => rw [line, dif_pos h, ih, rb_nerr]
  | case2 S c h => rw [line, dif_neg h]
theorem bstep_nerr (S : RS) : (bstep S).nerr = S.nerr := by
  unfold bstep
  split
  · exact syn_nerr S
  · rfl
theorem block_nerr (S : RS) (c c1 : UInt8) : (block S c c1).1.nerr = S.nerr := by
  induction S, c, c1 using block.induct with
  | case1 S c c1 h ih => rw [block, dif_pos h, ih, rb_nerr, bstep_nerr]
  | case2 S c c1 h => rw [block, dif_neg h]
theorem cmt_nerr (S : RS) (c : UInt8) : (cmt S c).nerr = S.nerr := by
  unfold cmt
  split
  · exact line_nerr _ _
  · split
    · exact block_nerr _ _ _
    · exact syn_nerr _
theorem skip_nerr (S : RS) (c : UInt8) : (skip S c).1.nerr = S.nerr := by
  induction S, c using skip.induct with
  | case1 S c h ih => rw [skip, dif_pos h, ih, rb_nerr]
  | case2 S c h h2 ih => rw [skip, dif_neg h, dif_pos h2, ih, rb_nerr, cmt_nerr, rb_nerr]
  | case3 S c h h2 => rw [skip, dif_neg h, dif_neg h2]
theorem first_nerr (S : RS) : (first S).1.nerr = S.nerr := by
  unfold first
  split
  · exact rb_nerr S
  · rfl
theorem skipIf_nerr (sk : Bool) (x : RS × UInt8) : (skipIf sk x).1.nerr = x.1.nerr := by
  unfold skipIf
  split
  · exact skip_nerr _ _
  · rfl
theorem pk_nb (sk : Bool) (S : RS) : NB 1 (pk sk S).1 S := by
  by_cases h : S.err = .no
  · have e : (pk sk S).1.nerr = S.nerr := by
      rw [pk_no h]
      show (skipIf sk (first S)).1.nerr = S.nerr
      rw [skipIf_nerr, first_nerr]
    exact (NB.of e).mono (by omega)
  · rw [pk_err h]
    exact ⟨fun e => absurd e h, Nat.le_refl _⟩
theorem nx_nb (sk : Bool) (S : RS) : NB 1 (nx sk S).1 S := ⟨(pk_nb sk S).same, (pk_nb sk S).le⟩
theorem nx_same {sk : Bool} {S : RS} (h : S.err = .no) : (nx sk S).1.nerr = S.nerr := by
  rw [nx_eq h]
  show (skipIf sk (first S)).1.nerr = S.nerr
  rw [skipIf_nerr, first_nerr]
theorem nx_err {sk : Bool} {S : RS} (h : (nx sk S).2 ≠ 0) : S.err = .no := by
  by_cases e : S.err = .no
  · exact e
  · exact absurd (by show (pk sk S).2 = 0; rw [pk_err e]) h
theorem syn_nb (S : RS) : NB 0 (syn S) S := NB.of (syn_nerr S)
theorem estep_nb (b : Bool) (S : RS) : NB 0 (estep b S) S := by
  unfold estep
  split
  · exact syn_nb S
  · exact NB.refl S
theorem kwl_nb : ∀ (l : List UInt8) (S : RS), (l.all fun k => !(k == 0)) = true → NB 1 (kwl l S).1 S
  | [], S, _ => (NB.refl S).mono (by omega)
  | k :: t, S, h => by
    rw [List.all_cons, Bool.and_eq_true] at h
    rw [kwl]
    split
    · rename_i hk
      have hk0 : k ≠ 0 := by rintro rfl; simp at h
      have he : S.err = .no := nx_err (by rw [hk]; exact hk0)
      have h1 := kwl_nb t (nx false S).1 h.2
      have e := nx_same (sk := false) he
      exact ⟨fun x => by rw [h1.same x, e], by have := h1.le; omega⟩
    · exact ((nx_nb false S).trans (syn_nb _) (syn_le _))
theorem kwEnd_nb (x : RS × Bool) : NB 1 (kwEnd x) x.1 := by
  unfold kwEnd
  split
  · split
    · exact (pk_nb _ _).trans (syn_nb _) (syn_le _)
    · exact pk_nb _ _
  · exact (NB.refl _).mono (by omega)
theorem kw_nb (l : List UInt8) (S : RS) (h : (l.all fun k => !(k == 0)) = true) : NB 3 (kw l S) S :=
  ((pk_nb true S).trans (kwl_nb l _ h) (kwl_le _ _)).trans (kwEnd_nb _) (kwEnd_le _)
theorem idl_nb (S : RS) : NB 1 (idl S) S := by
  induction S using idl.induct with
  | case1 S h ih =>
    rw [idl, dif_pos h]
    have e := nx_same (sk := false) (nx_err (id_ne h))
    exact ⟨fun x => by rw [ih.same x, e], by have := ih.le; omega⟩
  | case2 S h => rw [idl, dif_neg h]; exact pk_nb _ _
theorem ident_nb (S : RS) : NB 2 (ident S) S := by
  unfold ident
  split
  · exact (pk_nb _ _).trans (idl_nb _) (idl_le _)
  · exact ((pk_nb _ _).trans (syn_nb _) (syn_le _)).mono (by omega)
theorem raw_nb (S : RS) : NB 0 (raw S).1 S := by
  induction S using raw.induct with
  | case1 S h h2 => rw [raw, dif_pos h, if_pos h2]; exact NB.of (nx_same h)
  | case2 S h h2 ih =>
    rw [raw, dif_pos h, if_neg h2]
    exact ((NB.of (nx_same h)).trans (estep_nb _ _) (estep_le _ _)).trans ih (raw_le _)
  | case3 S h => rw [raw, dif_neg h]; exact NB.refl S
theorem after_nb (c : UInt8) (S : RS) : NB 1 (after c S) S := by
  unfold after
  split
  · exact nx_nb _ _
  · exact (NB.refl S).mono (by omega)
theorem quo_nb (S : RS) : NB 1 (quo S).1 S := by
  induction S using quo.induct with
  | case1 S h h2 => rw [quo, dif_pos h, if_pos h2]; exact (NB.of (nx_same h)).mono (by omega)
  | case2 S h h2 ih =>
    rw [quo, dif_pos h, if_neg h2]
    have h1 : NB 0 (estep ((nx false S).2 == 10) (nx false S).1) S := (NB.of (nx_same h)).trans (estep_nb _ _) (estep_le _ _)
    have h3 : NB 1 (after (nx false S).2 (estep ((nx false S).2 == 10) (nx false S).1)) S := by
      have := h1.trans (after_nb (nx false S).2 _) (after_le _ _)
      simpa using this
    generalize after (nx false S).2 (estep ((nx false S).2 == 10) (nx false S).1) = T at *
    by_cases e : T.err = .no
    · exact ⟨fun x => (ih.same x).trans (h3.same e), by have := h3.same e; have := ih.le; omega⟩
    · rw [quo, dif_neg e]
      exact h3
  | case3 S h => rw [quo, dif_neg h]; exact (NB.refl S).mono (by omega)
theorem str_nb (S : RS) : NB 2 (str S).1 S := by
  unfold str
  split
  · exact ((nx_nb _ _).trans (raw_nb _) (raw_le _)).mono (by omega)
  · split
    · exact (nx_nb _ _).trans (quo_nb _) (quo_le _)
    · exact ((nx_nb _ _).trans (syn_nb _) (syn_le _)).mono (by omega)
theorem name_nb (S : RS) : NB 3 (name S) S := by
  unfold name
  split
  · exact ⟨(pk_nb true S).same, by have := (pk_nb true S).le; show (pk true S).1.nerr ≤ _; omega⟩
  · split
    · exact (pk_nb _ _).trans (ident_nb _) (ident_le _)
    · exact (pk_nb _ _).mono (by omega)
theorem imp_nb (S : RS) : NB 5 (imp S).1 S := (name_nb S).trans (str_nb _) (str_le _)
theorem grp_nb (S : RS) : NB 6 (grp S).1 S := by
  induction S using grp.induct with
  | case1 S h ih =>
    rw [grp, dif_pos h]
    show NB 6 (grp (imp (pk true S).1).1).1 S
    have he := (pk_le true S).err h.2
    have h1 : NB 5 (imp (pk true S).1).1 S := by
      have h0 : NB 0 (pk true S).1 S := NB.of ((pk_nb true S).same h.2)
      simpa using h0.trans (imp_nb _) (imp_le _)
    generalize (imp (pk true S).1).1 = T at *
    by_cases e : T.err = .no
    · exact ⟨fun x => (ih.same x).trans (h1.same e), by have := h1.same e; have := ih.le; omega⟩
    · have : grp T = ((pk true T).1, []) := by rw [grp, dif_neg (fun x => e ((pk_le true T).err x.2))]
      rw [this]
      exact h1.trans (pk_nb _ _) (pk_le _ _)
  | case2 S h => rw [grp, dif_neg h]; exact (pk_nb _ _).mono (by omega)
theorem decl_nb (K : RS) : NB 9 (decl K).1 K := by
  unfold decl
  split
  · exact (((pk_nb _ _).trans (nx_nb _ _) (nx_le _ _)).trans (grp_nb _) (grp_le _)).trans (nx_nb _ _) (nx_le _ _)
  · exact ((pk_nb _ _).trans (imp_nb _) (imp_le _)).mono (by omega)
theorem importK_nz : (importK.all fun k => !(k == 0)) = true := by decide
theorem packageK_nz : (packageK.all fun k => !(k == 0)) = true := by decide
theorem ims_nb (S : RS) : NB 14 (ims S).1 S := by
  induction S using ims.induct with
  | case1 S h ih =>
    rw [ims, dif_pos h]
    show NB 14 (ims (decl (kw importK (pk true S).1)).1).1 S
    have h1 : NB 13 (decl (kw importK (pk true S).1)).1 S := ((pk_nb true S).trans (kw_nb _ _ importK_nz) (kw_le _ _)).trans (decl_nb _) (decl_le _)
    generalize (decl (kw importK (pk true S).1)).1 = T at *
    by_cases e : T.err = .no
    · exact ⟨fun x => (ih.same x).trans (h1.same e), by have := h1.same e; have := ih.le; omega⟩
    · have hp : (pk true T).2 = 0 := by rw [pk_err e]
      have : ims T = ((pk true T).1, []) := by rw [ims, dif_neg (by rw [hp]; decide)]
      rw [this]
      exact h1.trans (pk_nb _ _) (pk_le _ _)
  | case2 S h => rw [ims, dif_neg h]; exact (pk_nb _ _).mono (by omega)

/-- What was looked at was read. -/
def Good (S : RS) : Prop := S.peek ≠ 0 → S.buf ≠ []
theorem rb_good (S : RS) (h : (rb S).2 ≠ 0) : (rb S).1.buf ≠ [] := by
  cases hr : S.rest with
  | nil => rw [rb_nil hr] at h; exact absurd rfl h
  | cons c t =>
    by_cases hc : c = 0
    · subst hc; rw [rb_zero hr] at h; exact absurd rfl h
    · rw [rb_cons hr hc]; simp
theorem skip_good (S : RS) (c : UInt8) (hc : c ≠ 0 → S.buf ≠ []) : (skip S c).2 ≠ 0 → (skip S c).1.buf ≠ [] := by
  induction S, c using skip.induct with
  | case1 S c h ih => rw [skip, dif_pos h]; exact ih (rb_good S)
  | case2 S c h h2 ih => rw [skip, dif_neg h, dif_pos h2]; exact ih (rb_good _)
  | case3 S c h h2 => rw [skip, dif_neg h, dif_neg h2]; exact hc
theorem pk_good (sk : Bool) {S : RS} (h : Good S) : (pk sk S).2 ≠ 0 → (pk sk S).1.buf ≠ [] := by
  by_cases he : S.err = .no
  · rw [pk_no he]
    show (skipIf sk (first S)).2 ≠ 0 → (skipIf sk (first S)).1.buf ≠ []
    have h1 : (first S).2 ≠ 0 → (first S).1.buf ≠ [] := by
      unfold first
      split
      · exact rb_good S
      · exact h
    unfold skipIf
    split
    · exact skip_good _ _ h1
    · exact h1
  · rw [pk_err he]; exact fun e => absurd rfl e
theorem nx_good (sk : Bool) {S : RS} (h : Good S) : (nx sk S).2 ≠ 0 → (nx sk S).1.buf ≠ [] := pk_good sk h
end Go.Proofs.YtgplcbobomainaaDoor
