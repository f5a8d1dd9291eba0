/-
  What is read of a file is its beginning; the comments are the beginning of what is read up to the end of the imports.
-/
import Derived.Test.YtgplcbobomainaaDoorRdZ
import Derived.Test.YtgplcbobomainaaDoorRdY
namespace Go.Proofs.YtgplcbobomainaaDoor
set_option linter.unusedVariables false
set_option linter.unusedSimpArgs false

theorem stop_le (data : List UInt8) : Le (stop data).1 (start data) := (ims_le _).trans ((ident_le _).trans (kw_le _ _))
theorem stop_le_pk (data : List UInt8) : Le (stop data).1 (pk true (start data)).1 :=
  (ims_le _).trans ((ident_le _).trans ((kwEnd_le _).trans (kwl_le _ _)))
theorem ascii_start {data : List UInt8} (h : ∀ b ∈ data, b.toNat ≤ 127) : StartRest data = data := by
  unfold StartRest
  rw [if_neg]
  intro e
  have hm : (239 : UInt8) ∈ data.take 3 := by rw [e]; decide
  have := h _ (List.mem_of_mem_take hm)
  exact absurd this (by decide)
theorem Le.begins {S : RS} {data : List UInt8} (h : Le S (start data)) (ha : ∀ b ∈ data, b.toNat ≤ 127) : S.buf <+: data := by
  have e := h.all
  rw [start_rest] at e
  have e2 : S.buf ++ S.rest = data := by rw [e]; show [] ++ StartRest data = data; rw [ascii_start ha]; rfl
  exact ⟨S.rest, e2⟩
theorem readIm_begins {rep : Bool} {data o : List UInt8} {L : List (List UInt8)} (ha : ∀ b ∈ data, b.toNat ≤ 127) (h : readIm rep data = some (o, L)) : o <+: data := by
  have hp := (stop_le data).begins ha
  unfold readIm at h
  split at h
  · injection h with h; injection h with h1 h2
    rw [← h1]
    exact (List.dropLast_prefix _).trans hp
  · split at h
    · split at h
      · injection h with h; injection h with h1 h2
        rw [← h1]
        have hle : Le { (stop data).1 with err := Er.no } (start data) := ⟨(stop_le data).mu0, fun _ => rfl, (stop_le data).ext⟩
        exact ((whole_le _).trans hle).begins ha
      · cases h
    · split at h
      · injection h with h; injection h with h1 h2
        rw [← h1]; exact hp
      · cases h

/-- At the end nothing is to come. -/
def EI (S : RS) : Prop := S.eof = true → S.rest = []
theorem rb_ei {S : RS} (h : EI S) : EI (rb S).1 := by
  cases hr : S.rest with
  | nil => rw [rb_nil hr]; exact fun _ => hr
  | cons c t =>
    by_cases hc : c = 0
    · subst hc
      rw [rb_zero hr]
      intro he
      have := h he
      rw [hr] at this; cases this
    · rw [rb_cons hr hc]
      intro he
      have := h he
      rw [hr] at this; cases this
theorem syn_ei {S : RS} (h : EI S) : EI (syn S) := by
  unfold syn
  split
  · exact h
  · exact h
theorem line_ei (S : RS) (c : UInt8) : EI S → EI (line S c).1 := by
  induction S, c using line.induct with
  | case1 S c h ih => intro he; rw [line, dif_pos h]; exact ih (rb_ei he)
  | case2 S c h => intro he; rw [line, dif_neg h]; exact he
theorem bstep_ei {S : RS} (h : EI S) : EI (bstep S) := by
  unfold bstep
  split
  · exact syn_ei h
  · exact h
theorem block_ei (S : RS) (c c1 : UInt8) : EI S → EI (block S c c1).1 := by
  induction S, c, c1 using block.induct with
  | case1 S c c1 h ih => intro he; rw [block, dif_pos h]; exact ih (rb_ei (bstep_ei he))
  | case2 S c c1 h => intro he; rw [block, dif_neg h]; exact he
theorem cmt_ei {S : RS} (c : UInt8) (h : EI S) : EI (cmt S c) := by
  unfold cmt
  split
  · exact line_ei _ _ h
  · split
    · exact block_ei _ _ _ h
    · exact syn_ei h
theorem skip_ei (S : RS) (c : UInt8) : EI S → EI (skip S c).1 := by
  induction S, c using skip.induct with
  | case1 S c h ih => intro he; rw [skip, dif_pos h]; exact ih (rb_ei he)
  | case2 S c h h2 ih => intro he; rw [skip, dif_neg h, dif_pos h2]; exact ih (rb_ei (cmt_ei _ (rb_ei he)))
  | case3 S c h h2 => intro he; rw [skip, dif_neg h, dif_neg h2]; exact he
theorem pk_ei {S : RS} (sk : Bool) (h : EI S) : EI (pk sk S).1 := by
  by_cases he : S.err = .no
  · rw [pk_no he]
    have h1 : EI (first S).1 := by
      unfold first
      split
      · exact rb_ei h
      · exact h
    show EI (skipIf sk (first S)).1
    unfold skipIf
    split
    · exact skip_ei _ _ h1
    · exact h1
  · rw [pk_err he]; exact h
theorem eof_stays {S T : RS} (h : Le T S) (he : S.eof = true) (hr : S.rest = []) : T.eof = true := by
  have h0 := h.mu0
  unfold RS.mu0 at h0
  rw [he, hr] at h0
  simp at h0
  exact h0.2
theorem prefix_dropLast {a b : List UInt8} (h : a <+: b) : a.dropLast <+: b.dropLast := by
  obtain ⟨t, rfl⟩ := h
  by_cases ht : t = []
  · subst ht; simp
  · rw [List.dropLast_append_of_ne_nil ht]
    exact (List.dropLast_prefix a).trans (List.prefix_append _ _)
theorem readCm_im {data c o : List UInt8} {L : List (List UInt8)} (hc : readCm data = some c) (ho : readIm true data = some (o, L)) : c <+: o := by
  have hle := stop_le_pk data
  have hb : (pk true (start data)).1.buf <+: (stop data).1.buf := by
    obtain ⟨t, e, _⟩ := hle.ext
    exact ⟨t, e.symm⟩
  have hei : EI (pk true (start data)).1 := pk_ei true (fun e => by cases e)
  unfold readCm at hc
  split at hc
  case isFalse => cases hc
  injection hc with hc
  unfold readIm at ho
  split at ho
  · rename_i hgo
    injection ho with ho; injection ho with h1 h2
    have hef : (pk true (start data)).1.eof = false := by
      cases hx : (pk true (start data)).1.eof with
      | false => rfl
      | true =>
        have := eof_stays hle hx (hei hx)
        rw [go_eof hgo] at this; cases this
    rw [← hc, if_neg (by rw [hef]; simp), ← h1]
    exact prefix_dropLast hb
  · split at ho
    · rename_i h; cases h.2
    · split at ho
      · injection ho with ho; injection ho with h1 h2
        rw [← hc, ← h1]
        split
        · exact hb
        · exact (List.dropLast_prefix _).trans hb
      · cases ho
end Go.Proofs.YtgplcbobomainaaDoor
