/-
  A reader of a file's head: the plain steps.
-/
import Derived.Test.YtgplcbobomainaaDoorRows
namespace Go.Proofs.YtgplcbobomainaaDoor
set_option linter.unusedVariables false
set_option linter.unusedSimpArgs false

inductive Er where
  | no | syn | nul
deriving DecidableEq
/-- What a reader holds: what is still to come, what was read, the byte that was looked at, the error, whether the end was met, how often it was asked behind an error. -/
structure RS where
  rest : List UInt8
  buf : List UInt8
  peek : UInt8
  err : Er
  eof : Bool
  nerr : Nat
deriving DecidableEq

def RS.go (S : RS) : Bool := decide (S.err = .no) && !S.eof
theorem go_eof {S : RS} (h : S.go = true) : S.eof = false := by
  unfold RS.go at h; simp at h; exact h.2
theorem go_err {S : RS} (h : S.go = true) : S.err = .no := by
  unfold RS.go at h; simp at h; exact h.1
/-- What lies ahead; measures. -/
def RS.mu0 (S : RS) : Nat := 2 * S.rest.length + (if S.eof then 0 else 1)
def RS.mu (S : RS) : Nat := S.mu0 + (if S.err = .no then 1 else 0)
def RS.m2 (S : RS) : Nat := 2 * S.mu + (if S.peek = 0 then 0 else 1)
/-- A later state. -/
structure Le (S' S : RS) : Prop where
  mu0 : S'.mu0 ≤ S.mu0
  err : S'.err = .no → S.err = .no
  ext : ∃ t, S'.buf = S.buf ++ t ∧ S.rest = t ++ S'.rest
theorem Le.refl (S : RS) : Le S S := ⟨Nat.le_refl _, id, [], by simp, rfl⟩
theorem Le.trans {a b c : RS} (h : Le a b) (k : Le b c) : Le a c := by
  obtain ⟨t, e1, e2⟩ := h.ext
  obtain ⟨u, e3, e4⟩ := k.ext
  exact ⟨Nat.le_trans h.mu0 k.mu0, fun e => k.err (h.err e), u ++ t, by rw [e1, e3, List.append_assoc], by rw [e4, e2, List.append_assoc]⟩
theorem Le.buf {S' S : RS} (h : Le S' S) : S.buf.length ≤ S'.buf.length := by
  obtain ⟨t, e1, _⟩ := h.ext
  rw [e1, List.length_append]; omega
theorem Le.total {S' S : RS} (h : Le S' S) : S'.buf.length + S'.rest.length = S.buf.length + S.rest.length := by
  obtain ⟨t, e1, e2⟩ := h.ext
  rw [e1, e2, List.length_append, List.length_append]; omega
theorem Le.all {S' S : RS} (h : Le S' S) : S'.buf ++ S'.rest = S.buf ++ S.rest := by
  obtain ⟨t, e1, e2⟩ := h.ext
  rw [e1, e2, List.append_assoc]
theorem Le.mu {S' S : RS} (h : Le S' S) : S'.mu ≤ S.mu := by
  have h0 := h.mu0
  unfold RS.mu
  by_cases e : S'.err = .no
  · rw [if_pos e, if_pos (h.err e)]; omega
  · rw [if_neg e]; omega
theorem Le.lt {S' S : RS} (h : Le S' S) (h1 : S.err = .no) (h2 : S'.err ≠ .no) : S'.mu < S.mu := by
  have h0 := h.mu0
  unfold RS.mu
  rw [if_pos h1, if_neg h2]; omega

def rb (S : RS) : RS × UInt8 :=
  match S.rest with
  | [] => ({ S with eof := true }, 0)
  | c :: t => if c = 0 then ({ S with rest := t, buf := S.buf ++ [c], err := if S.err = .no then .nul else S.err }, 0) else ({ S with rest := t, buf := S.buf ++ [c] }, c)
def syn (S : RS) : RS := if S.err = .no then { S with err := .syn } else S

theorem rb_nil {S : RS} (h : S.rest = []) : rb S = ({ S with eof := true }, 0) := by unfold rb; rw [h]
theorem rb_zero {S : RS} {t : List UInt8} (h : S.rest = 0 :: t) : rb S = ({ S with rest := t, buf := S.buf ++ [0], err := if S.err = .no then .nul else S.err }, 0) := by unfold rb; rw [h]; simp
theorem rb_cons {S : RS} {c : UInt8} {t : List UInt8} (h : S.rest = c :: t) (hc : c ≠ 0) : rb S = ({ S with rest := t, buf := S.buf ++ [c] }, c) := by unfold rb; rw [h]; simp [hc]
theorem rb_le (S : RS) : Le (rb S).1 S := by
  cases h : S.rest with
  | nil => rw [rb_nil h]; exact ⟨by unfold RS.mu0; simp, fun e => e, [], by simp, rfl⟩
  | cons c t =>
    by_cases hc : c = 0
    · subst hc
      rw [rb_zero h]
      exact ⟨by unfold RS.mu0; simp [h]; omega, (fun e => by
        by_cases he : S.err = .no
        · exact he
        · simp [he] at e), [0], rfl, h⟩
    · rw [rb_cons h hc]
      exact ⟨by unfold RS.mu0; simp [h]; omega, fun e => e, [c], rfl, h⟩
theorem rb_lt {S : RS} (h : S.eof = false) : (rb S).1.mu < S.mu := by
  cases hr : S.rest with
  | nil => rw [rb_nil hr]; unfold RS.mu RS.mu0; simp [h, hr]
  | cons c t =>
    by_cases hc : c = 0
    · subst hc
      rw [rb_zero hr]
      unfold RS.mu RS.mu0; simp only [hr, List.length_cons]
      by_cases he : S.err = .no <;> simp [he] <;> omega
    · rw [rb_cons hr hc]
      unfold RS.mu RS.mu0; simp only [hr, List.length_cons]; omega
theorem rb_lt' {S : RS} {c : UInt8} {t : List UInt8} (hr : S.rest = c :: t) : (rb S).1.mu < S.mu := by
  by_cases hc : c = 0
  · subst hc
    rw [rb_zero hr]
    unfold RS.mu RS.mu0; simp only [hr, List.length_cons]
    by_cases he : S.err = .no <;> simp [he] <;> omega
  · rw [rb_cons hr hc]
    unfold RS.mu RS.mu0; simp only [hr, List.length_cons]; omega
theorem syn_le (S : RS) : Le (syn S) S := by
  unfold syn
  split
  · exact ⟨Nat.le_refl _, (fun e => by cases e), [], by simp, rfl⟩
  · exact Le.refl S
theorem syn_no (S : RS) : (syn S).err ≠ .no := by
  unfold syn
  split
  · simp
  · assumption
theorem syn_lt {S : RS} (h : S.err = .no) : (syn S).mu < S.mu := (syn_le S).lt h (syn_no S)

/-- To the end of a line. -/
def line (S : RS) (c : UInt8) : RS × UInt8 :=
  if h : c ≠ 10 ∧ S.go = true then line (rb S).1 (rb S).2 else (S, c)
termination_by S.mu
decreasing_by exact rb_lt (go_eof h.2)
def bstep (S : RS) : RS := if S.eof = true then syn S else S
theorem bstep_lt {S : RS} (h : S.err = .no) : (rb (bstep S)).1.mu < S.mu := by
  unfold bstep
  split
  · exact Nat.lt_of_le_of_lt (rb_le _).mu (syn_lt h)
  · rename_i he; exact rb_lt (by simpa using he)
theorem bstep_le (S : RS) : Le (bstep S) S := by
  unfold bstep
  split
  · exact syn_le S
  · exact Le.refl S
/-- To the end of a block. -/
def block (S : RS) (c c1 : UInt8) : RS × UInt8 × UInt8 :=
  if h : (c ≠ 42 ∨ c1 ≠ 47) ∧ S.err = .no then block (rb (bstep S)).1 c1 (rb (bstep S)).2 else (S, c, c1)
termination_by S.mu
decreasing_by exact bstep_lt h.2

theorem line_le (S : RS) (c : UInt8) : Le (line S c).1 S := by
  induction S, c using line.induct with
  | case1 S c h ih =>
    rw [line, dif_pos h]
    exact ih.trans (rb_le S)
  | case2 S c h => rw [line, dif_neg h]; exact Le.refl _
theorem block_le (S : RS) (c c1 : UInt8) : Le (block S c c1).1 S := by
  induction S, c, c1 using block.induct with
  | case1 S c c1 h ih =>
    rw [block, dif_pos h]
    exact ih.trans ((rb_le _).trans (bstep_le S))
  | case2 S c c1 h => rw [block, dif_neg h]; exact Le.refl _

def isSp (c : UInt8) : Bool := c == 32 || c == 12 || c == 9 || c == 13 || c == 10 || c == 59
/-- A comment, behind its first sign. -/
def cmt (S : RS) (c : UInt8) : RS := if c = 47 then (line S c).1 else if c = 42 then (block S c 0).1 else syn S
theorem cmt_le (S : RS) (c : UInt8) : Le (cmt S c) S := by
  unfold cmt
  split
  · exact line_le _ _
  · split
    · exact block_le _ _ _
    · exact syn_le _
/-- Past spaces and comments. -/
def skip (S : RS) (c : UInt8) : RS × UInt8 :=
  if h : S.go = true ∧ isSp c = true then skip (rb S).1 (rb S).2
  else if h : S.go = true ∧ c = 47 then skip (rb (cmt (rb S).1 (rb S).2)).1 (rb (cmt (rb S).1 (rb S).2)).2
  else (S, c)
termination_by S.mu
decreasing_by
  · exact rb_lt (go_eof h.1)
  · exact Nat.lt_of_le_of_lt (rb_le _).mu (Nat.lt_of_le_of_lt (cmt_le _ _).mu (rb_lt (go_eof h.1)))
theorem skip_le (S : RS) (c : UInt8) : Le (skip S c).1 S := by
  induction S, c using skip.induct with
  | case1 S c h ih => rw [skip, dif_pos h]; exact ih.trans (rb_le S)
  | case2 S c h h2 ih =>
    rw [skip, dif_neg h, dif_pos h2]
    exact ih.trans ((rb_le _).trans ((cmt_le _ _).trans (rb_le _)))
  | case3 S c h h2 => rw [skip, dif_neg h, dif_neg h2]; exact Le.refl _

def first (S : RS) : RS × UInt8 := if S.peek = 0 then rb S else (S, S.peek)
theorem first_le (S : RS) : Le (first S).1 S := by
  unfold first
  split
  · exact rb_le S
  · exact Le.refl _
def skipIf (sk : Bool) (x : RS × UInt8) : RS × UInt8 := if sk = true then skip x.1 x.2 else x
theorem skipIf_le (sk : Bool) (x : RS × UInt8) : Le (skipIf sk x).1 x.1 := by
  unfold skipIf
  split
  · exact skip_le _ _
  · exact Le.refl _
/-- peekByte. -/
def pk (sk : Bool) (S : RS) : RS × UInt8 :=
  if S.err = .no then ({ (skipIf sk (first S)).1 with peek := (skipIf sk (first S)).2 }, (skipIf sk (first S)).2)
  else ({ S with nerr := S.nerr + 1 }, 0)
theorem pk_no {sk : Bool} {S : RS} (h : S.err = .no) : pk sk S = ({ (skipIf sk (first S)).1 with peek := (skipIf sk (first S)).2 }, (skipIf sk (first S)).2) := by unfold pk; rw [if_pos h]
theorem pk_err {sk : Bool} {S : RS} (h : S.err ≠ .no) : pk sk S = ({ S with nerr := S.nerr + 1 }, 0) := by unfold pk; rw [if_neg h]
theorem pk_le (sk : Bool) (S : RS) : Le (pk sk S).1 S := by
  by_cases h : S.err = .no
  · rw [pk_no h]
    have := (skipIf_le sk (first S)).trans (first_le S)
    exact ⟨this.mu0, this.err, this.ext⟩
  · rw [pk_err h]; exact ⟨Nat.le_refl _, id, [], by simp, rfl⟩
/-- nextByte. -/
def nx (sk : Bool) (S : RS) : RS × UInt8 := ({ (pk sk S).1 with peek := 0 }, (pk sk S).2)
theorem nx_le (sk : Bool) (S : RS) : Le (nx sk S).1 S := ⟨(pk_le sk S).mu0, (pk_le sk S).err, (pk_le sk S).ext⟩

theorem skip_end {S : RS} (h : S.eof = true) (c : UInt8) : skip S c = (S, c) := by
  have hg : ¬ S.go = true := fun e => by rw [go_eof e] at h; cases h
  rw [skip, dif_neg (fun e => hg e.1), dif_neg (fun e => hg e.1)]
theorem first_or {S : RS} (h0 : S.peek = 0) : (first S).1.mu < S.mu ∨ first S = ({ S with eof := true }, 0) := by
  unfold first
  rw [if_pos h0]
  cases hr : S.rest with
  | cons c t => exact .inl (rb_lt' hr)
  | nil => exact .inr (by rw [rb_nil hr, hr])
theorem nx_eq {sk : Bool} {S : RS} (he : S.err = .no) : nx sk S = ({ (skipIf sk (first S)).1 with peek := 0 }, (skipIf sk (first S)).2) := by
  unfold nx; rw [pk_no he]
theorem m2_peek0 {S : RS} (h : S.peek = 0) : S.m2 = 2 * S.mu := by unfold RS.m2; rw [if_pos h]; omega
/-- A byte that is asked for lowers the measure, or the end stands. -/
theorem nx_or {sk : Bool} {S : RS} (he : S.err = .no) : (nx sk S).1.m2 < S.m2 ∨ ((nx sk S).1.eof = true ∧ (nx sk S).1.err = .no ∧ (nx sk S).2 = 0 ∧ (nx sk S).1.m2 ≤ S.m2) := by
  have hle := (nx_le sk S).mu
  have hp : (nx sk S).1.m2 = 2 * (nx sk S).1.mu := m2_peek0 rfl
  by_cases h0 : S.peek = 0
  · rcases first_or h0 with hlt | hf
    · left
      have h1 : (nx sk S).1.mu < S.mu := by
        rw [nx_eq he]
        exact Nat.lt_of_le_of_lt (skipIf_le sk (first S)).mu hlt
      rw [hp, m2_peek0 h0]; omega
    · right
      have e : skipIf sk (first S) = ({ S with eof := true }, 0) := by
        rw [hf]; unfold skipIf
        split
        · exact skip_end rfl 0
        · rfl
      rw [m2_peek0 h0, hp]
      refine ⟨?_, ?_, ?_, by omega⟩ <;> rw [nx_eq he, e]
      exact he
  · left
    rw [hp]
    unfold RS.m2
    rw [if_neg h0]; omega
theorem nx_lt {sk : Bool} {S : RS} (h : (nx sk S).2 ≠ 0) : (nx sk S).1.m2 < S.m2 := by
  have he : S.err = .no := by
    by_cases e : S.err = .no
    · exact e
    · exact absurd (by show (pk sk S).2 = 0; rw [pk_err e]) h
  rcases nx_or (sk := sk) he with h1 | h1
  · exact h1
  · exact absurd h1.2.2.1 h
theorem nx_m2 (sk : Bool) (S : RS) : (nx sk S).1.m2 ≤ S.m2 := by
  rw [m2_peek0 rfl]
  have := (nx_le sk S).mu
  unfold RS.m2; split <;> omega
theorem syn_m2 (S : RS) : (syn S).m2 ≤ S.m2 := by
  have h := (syn_le S).mu
  have e : (syn S).peek = S.peek := by unfold syn; split <;> rfl
  unfold RS.m2; rw [e]; omega
theorem syn_m2_lt {S : RS} (he : S.err = .no) : (syn S).m2 < S.m2 := by
  have h := syn_lt he
  have e : (syn S).peek = S.peek := by unfold syn; split <;> rfl
  unfold RS.m2; rw [e]; omega
theorem m2_of_mu {S' S : RS} (h : S'.mu < S.mu) : S'.m2 < S.m2 := by
  unfold RS.m2
  split <;> split <;> omega
theorem pk_m2 (sk : Bool) (S : RS) : (pk sk S).1.m2 ≤ S.m2 := by
  have hle := (pk_le sk S).mu
  by_cases h : S.err = .no
  · by_cases h0 : S.peek = 0
    · rcases first_or h0 with hlt | hf
      · refine Nat.le_of_lt (m2_of_mu ?_)
        rw [pk_no h]
        exact Nat.lt_of_le_of_lt (skipIf_le sk (first S)).mu hlt
      · have e : skipIf sk (first S) = ({ S with eof := true }, 0) := by
          rw [hf]; unfold skipIf
          split
          · exact skip_end rfl 0
          · rfl
        have hp : (pk sk S).1.peek = 0 := by rw [pk_no h, e]
        rw [m2_peek0 hp, m2_peek0 h0]; omega
    · unfold RS.m2
      rw [if_neg h0]
      split <;> omega
  · rw [pk_err h]; exact Nat.le_refl _

def isId (c : UInt8) : Bool := (decide (65 ≤ c.toNat) && decide (c.toNat ≤ 90)) || (decide (97 ≤ c.toNat) && decide (c.toNat ≤ 122)) || (decide (48 ≤ c.toNat) && decide (c.toNat ≤ 57)) || c == 95 || decide (128 ≤ c.toNat)
theorem id_ne {c : UInt8} (h : isId c = true) : c ≠ 0 := by rintro rfl; exact absurd h (by decide)

/-- The signs of a keyword. -/
def kwl : List UInt8 → RS → RS × Bool
  | [], S => (S, true)
  | k :: t, S => if (nx false S).2 = k then kwl t (nx false S).1 else (syn (nx false S).1, false)
def kwEnd (x : RS × Bool) : RS := if x.2 = true then (if isId (pk false x.1).2 = true then syn (pk false x.1).1 else (pk false x.1).1) else x.1
/-- readKeyword. -/
def kw (l : List UInt8) (S : RS) : RS := kwEnd (kwl l (pk true S).1)
theorem kwl_le : ∀ (l : List UInt8) (S : RS), Le (kwl l S).1 S
  | [], S => Le.refl S
  | k :: t, S => by
    rw [kwl]
    split
    · exact (kwl_le t _).trans (nx_le _ _)
    · exact (syn_le _).trans (nx_le _ _)
theorem kwEnd_le (x : RS × Bool) : Le (kwEnd x) x.1 := by
  unfold kwEnd
  split
  · split
    · exact (syn_le _).trans (pk_le _ _)
    · exact pk_le _ _
  · exact Le.refl _
theorem kw_le (l : List UInt8) (S : RS) : Le (kw l S) S := (kwEnd_le _).trans ((kwl_le _ _).trans (pk_le _ _))

/-- The signs of an identifier. -/
def idl (S : RS) : RS :=
  if h : isId (nx false S).2 = true then idl (nx false S).1 else (pk false S).1
termination_by S.m2
decreasing_by exact nx_lt (id_ne h)
/-- readIdent. -/
def ident (S : RS) : RS := if isId (pk true S).2 = true then idl (pk true S).1 else syn (pk true S).1
theorem idl_le (S : RS) : Le (idl S) S := by
  induction S using idl.induct with
  | case1 S h ih => rw [idl, dif_pos h]; exact ih.trans (nx_le _ _)
  | case2 S h => rw [idl, dif_neg h]; exact pk_le _ _
theorem ident_le (S : RS) : Le (ident S) S := by
  unfold ident
  split
  · exact (idl_le _).trans (pk_le _ _)
  · exact (syn_le _).trans (pk_le _ _)

def estep (b : Bool) (S : RS) : RS := if S.eof = true ∨ b = true then syn S else S
theorem estep_le (b : Bool) (S : RS) : Le (estep b S) S := by
  unfold estep
  split
  · exact syn_le S
  · exact Le.refl S
theorem estep_m2 (b : Bool) (S : RS) : (estep b S).m2 ≤ S.m2 := by
  unfold estep
  split
  · exact syn_m2 S
  · exact Nat.le_refl _
theorem estep_lt {sk b : Bool} {S : RS} (he : S.err = .no) : (estep b (nx sk S).1).m2 < S.m2 := by
  rcases nx_or (sk := sk) he with h | h
  · exact Nat.lt_of_le_of_lt (estep_m2 _ _) h
  · have e : estep b (nx sk S).1 = syn (nx sk S).1 := by unfold estep; rw [if_pos (.inl h.1)]
    rw [e]
    exact Nat.lt_of_lt_of_le (syn_m2_lt h.2.1) h.2.2.2

/-- A literal between back quotes: what is read, and whether it ended. -/
def raw (S : RS) : RS × Bool :=
  if h : S.err = .no then
    if (nx false S).2 = 96 then ((nx false S).1, true) else raw (estep false (nx false S).1)
  else (S, false)
termination_by S.m2
decreasing_by exact estep_lt h
def after (c : UInt8) (S : RS) : RS := if c = 92 then (nx false S).1 else S
theorem after_le (c : UInt8) (S : RS) : Le (after c S) S := by
  unfold after
  split
  · exact nx_le _ _
  · exact Le.refl _
theorem after_m2 (c : UInt8) (S : RS) : (after c S).m2 ≤ S.m2 := by
  unfold after
  split
  · exact nx_m2 _ _
  · exact Nat.le_refl _
/-- A literal between double quotes. -/
def quo (S : RS) : RS × Bool :=
  if h : S.err = .no then
    if (nx false S).2 = 34 then ((nx false S).1, true)
    else quo (after (nx false S).2 (estep ((nx false S).2 == 10) (nx false S).1))
  else (S, false)
termination_by S.m2
decreasing_by exact Nat.lt_of_le_of_lt (after_m2 _ _) (estep_lt h)
theorem raw_le (S : RS) : Le (raw S).1 S := by
  induction S using raw.induct with
  | case1 S h h2 => rw [raw, dif_pos h, if_pos h2]; exact nx_le _ _
  | case2 S h h2 ih => rw [raw, dif_pos h, if_neg h2]; exact ih.trans ((estep_le _ _).trans (nx_le _ _))
  | case3 S h => rw [raw, dif_neg h]; exact Le.refl _
theorem quo_le (S : RS) : Le (quo S).1 S := by
  induction S using quo.induct with
  | case1 S h h2 => rw [quo, dif_pos h, if_pos h2]; exact nx_le _ _
  | case2 S h h2 ih => rw [quo, dif_pos h, if_neg h2]; exact ih.trans ((after_le _ _).trans ((estep_le _ _).trans (nx_le _ _)))
  | case3 S h => rw [quo, dif_neg h]; exact Le.refl _

/-- What is saved of a literal that began at a place. -/
def saved (start : Nat) (x : RS × Bool) : List (List UInt8) := if x.2 = true then [x.1.buf.drop start] else []
/-- readString. -/
def str (S : RS) : RS × List (List UInt8) :=
  if (nx true S).2 = 96 then ((raw (nx true S).1).1, saved ((nx true S).1.buf.length - 1) (raw (nx true S).1))
  else if (nx true S).2 = 34 then ((quo (nx true S).1).1, saved ((nx true S).1.buf.length - 1) (quo (nx true S).1))
  else (syn (nx true S).1, [])
theorem str_le (S : RS) : Le (str S).1 S := by
  unfold str
  split
  · exact (raw_le _).trans (nx_le _ _)
  · split
    · exact (quo_le _).trans (nx_le _ _)
    · exact (syn_le _).trans (nx_le _ _)
/-- readImport. -/
def name (S : RS) : RS := if (pk true S).2 = 46 then { (pk true S).1 with peek := 0 } else if isId (pk true S).2 = true then ident (pk true S).1 else (pk true S).1
def imp (S : RS) : RS × List (List UInt8) := str (name S)
theorem peek0_le (S : RS) : Le { S with peek := 0 } S := ⟨Nat.le_refl _, id, [], by simp, rfl⟩
theorem name_le (S : RS) : Le (name S) S := by
  unfold name
  split
  · exact (peek0_le _).trans (pk_le _ _)
  · split
    · exact (ident_le _).trans (pk_le _ _)
    · exact pk_le _ _
theorem imp_le (S : RS) : Le (imp S).1 S := (str_le _).trans (name_le _)
theorem kwl_m2 : ∀ (l : List UInt8) (S : RS), (kwl l S).1.m2 ≤ S.m2
  | [], S => Nat.le_refl _
  | k :: t, S => by
    rw [kwl]
    split
    · exact Nat.le_trans (kwl_m2 t _) (nx_m2 _ _)
    · exact Nat.le_trans (syn_m2 _) (nx_m2 _ _)
theorem kwEnd_m2 (x : RS × Bool) : (kwEnd x).m2 ≤ x.1.m2 := by
  unfold kwEnd
  split
  · split
    · exact Nat.le_trans (syn_m2 _) (pk_m2 _ _)
    · exact pk_m2 _ _
  · exact Nat.le_refl _
theorem kw_m2 (l : List UInt8) (S : RS) : (kw l S).m2 ≤ S.m2 := Nat.le_trans (kwEnd_m2 _) (Nat.le_trans (kwl_m2 _ _) (pk_m2 _ _))
theorem idl_m2 (S : RS) : (idl S).m2 ≤ S.m2 := by
  induction S using idl.induct with
  | case1 S h ih => rw [idl, dif_pos h]; exact Nat.le_trans ih (nx_m2 _ _)
  | case2 S h => rw [idl, dif_neg h]; exact pk_m2 _ _
theorem ident_m2 (S : RS) : (ident S).m2 ≤ S.m2 := by
  unfold ident
  split
  · exact Nat.le_trans (idl_m2 _) (pk_m2 _ _)
  · exact Nat.le_trans (syn_m2 _) (pk_m2 _ _)
theorem raw_m2 (S : RS) : (raw S).1.m2 ≤ S.m2 := by
  induction S using raw.induct with
  | case1 S h h2 => rw [raw, dif_pos h, if_pos h2]; exact nx_m2 _ _
  | case2 S h h2 ih => rw [raw, dif_pos h, if_neg h2]; exact Nat.le_trans ih (Nat.le_trans (estep_m2 _ _) (nx_m2 _ _))
  | case3 S h => rw [raw, dif_neg h]; exact Nat.le_refl _
theorem quo_m2 (S : RS) : (quo S).1.m2 ≤ S.m2 := by
  induction S using quo.induct with
  | case1 S h h2 => rw [quo, dif_pos h, if_pos h2]; exact nx_m2 _ _
  | case2 S h h2 ih => rw [quo, dif_pos h, if_neg h2]; exact Nat.le_trans ih (Nat.le_trans (after_m2 _ _) (Nat.le_trans (estep_m2 _ _) (nx_m2 _ _)))
  | case3 S h => rw [quo, dif_neg h]; exact Nat.le_refl _
theorem str_m2 (S : RS) : (str S).1.m2 ≤ S.m2 := by
  unfold str
  split
  · exact Nat.le_trans (raw_m2 _) (nx_m2 _ _)
  · split
    · exact Nat.le_trans (quo_m2 _) (nx_m2 _ _)
    · exact Nat.le_trans (syn_m2 _) (nx_m2 _ _)
theorem str_lt {S : RS} (he : S.err = .no) : (str S).1.m2 < S.m2 := by
  unfold str
  split
  · rename_i h
    exact Nat.lt_of_le_of_lt (raw_m2 _) (nx_lt (by rw [h]; decide))
  · split
    · rename_i h
      exact Nat.lt_of_le_of_lt (quo_m2 _) (nx_lt (by rw [h]; decide))
    · rcases nx_or (sk := true) he with h | h
      · exact Nat.lt_of_le_of_lt (syn_m2 _) h
      · exact Nat.lt_of_lt_of_le (syn_m2_lt h.2.1) h.2.2.2
theorem peek0_m2 (S : RS) : RS.m2 { S with peek := 0 } ≤ S.m2 := by
  rw [m2_peek0 rfl]
  show 2 * S.mu ≤ S.m2
  unfold RS.m2; omega
theorem name_m2 (S : RS) : (name S).m2 ≤ S.m2 := by
  unfold name
  split
  · exact Nat.le_trans (peek0_m2 _) (pk_m2 _ _)
  · split
    · exact Nat.le_trans (ident_m2 _) (pk_m2 _ _)
    · exact pk_m2 _ _
theorem imp_m2 (S : RS) : (imp S).1.m2 ≤ S.m2 := Nat.le_trans (str_m2 _) (name_m2 _)
theorem imp_lt {S : RS} (he : S.err = .no) : (imp S).1.m2 < S.m2 := by
  unfold imp
  by_cases h : (name S).err = .no
  · exact Nat.lt_of_lt_of_le (str_lt h) (name_m2 S)
  · exact Nat.lt_of_le_of_lt (str_m2 _) (m2_of_mu ((name_le S).lt he h))

/-- The imports of a group. -/
def grp (S : RS) : RS × List (List UInt8) :=
  if h : (pk true S).2 ≠ 41 ∧ (pk true S).1.err = .no then
    ((grp (imp (pk true S).1).1).1, (imp (pk true S).1).2 ++ (grp (imp (pk true S).1).1).2)
  else ((pk true S).1, [])
termination_by S.m2
decreasing_by
  all_goals exact Nat.lt_of_lt_of_le (imp_lt h.2) (pk_m2 _ _)
theorem grp_le (S : RS) : Le (grp S).1 S := by
  induction S using grp.induct with
  | case1 S h ih => rw [grp, dif_pos h]; exact ih.trans ((imp_le _).trans (pk_le _ _))
  | case2 S h => rw [grp, dif_neg h]; exact pk_le _ _
theorem grp_m2 (S : RS) : (grp S).1.m2 ≤ S.m2 := by
  induction S using grp.induct with
  | case1 S h ih => rw [grp, dif_pos h]; exact Nat.le_trans ih (Nat.le_trans (imp_m2 _) (pk_m2 _ _))
  | case2 S h => rw [grp, dif_neg h]; exact pk_m2 _ _

def importK : List UInt8 := [105, 109, 112, 111, 114, 116]
def packageK : List UInt8 := [112, 97, 99, 107, 97, 103, 101]
theorem skip_id {S : RS} {c : UInt8} (h1 : isSp c = false) (h2 : c ≠ 47) : skip S c = (S, c) := by
  rw [skip, dif_neg (fun e => by rw [h1] at e; exact absurd e.2 (by simp)), dif_neg (fun e => h2 e.2)]
theorem kw_lt {S : RS} (h : (pk true S).2 = 105) : (kw importK (pk true S).1).m2 < S.m2 := by
  have he : S.err = .no := by
    by_cases e : S.err = .no
    · exact e
    · rw [pk_err e] at h
      have h' : (0 : UInt8) = 105 := h
      exact absurd h' (by decide)
  by_cases hn : (pk true S).1.err = .no
  · refine Nat.lt_of_lt_of_le ?_ (pk_m2 true S)
    have hpk : (pk true S).1.peek = 105 := by rw [← h, pk_no he]
    generalize (pk true S).1 = T at *
    have e1 : pk true T = (T, 105) := by
      rw [pk_no hn]
      have ef : first T = (T, 105) := by unfold first; rw [hpk, if_neg (by decide)]
      have es : skipIf true (first T) = (T, 105) := by rw [ef]; unfold skipIf; rw [if_pos rfl]; exact skip_id (c := 105) (by decide) (by decide)
      rw [es]
      simp only [Prod.mk.injEq, and_true]
      cases T
      simp only at hpk
      rw [hpk]
    have e2 : (nx false T).2 = 105 := by
      rw [nx_eq hn]
      have ef : first T = (T, 105) := by unfold first; rw [hpk, if_neg (by decide)]
      rw [ef]; rfl
    unfold kw
    rw [e1]
    refine Nat.lt_of_le_of_lt (kwEnd_m2 _) ?_
    unfold importK
    rw [kwl, if_pos e2]
    exact Nat.lt_of_le_of_lt (kwl_m2 _ _) (nx_lt (by rw [e2]; decide))
  · exact Nat.lt_of_le_of_lt (kw_m2 _ _) (m2_of_mu ((pk_le true S).lt he hn))

/-- One import declaration, behind its word. -/
def decl (K : RS) : RS × List (List UInt8) :=
  if (pk true K).2 = 40 then ((nx false (grp (nx false (pk true K).1).1).1).1, (grp (nx false (pk true K).1).1).2) else imp (pk true K).1
theorem decl_le (K : RS) : Le (decl K).1 K := by
  unfold decl
  split
  · exact (nx_le _ _).trans ((grp_le _).trans ((nx_le _ _).trans (pk_le _ _)))
  · exact (imp_le _).trans (pk_le _ _)
theorem decl_m2 (K : RS) : (decl K).1.m2 ≤ K.m2 := by
  unfold decl
  split
  · exact Nat.le_trans (nx_m2 _ _) (Nat.le_trans (grp_m2 _) (Nat.le_trans (nx_m2 _ _) (pk_m2 _ _)))
  · exact Nat.le_trans (imp_m2 _) (pk_m2 _ _)
/-- The import declarations. -/
def ims (S : RS) : RS × List (List UInt8) :=
  if h : (pk true S).2 = 105 then
    ((ims (decl (kw importK (pk true S).1)).1).1, (decl (kw importK (pk true S).1)).2 ++ (ims (decl (kw importK (pk true S).1)).1).2)
  else ((pk true S).1, [])
termination_by S.m2
decreasing_by
  all_goals exact Nat.lt_of_le_of_lt (decl_m2 _) (kw_lt h)
theorem ims_le (S : RS) : Le (ims S).1 S := by
  induction S using ims.induct with
  | case1 S h ih => rw [ims, dif_pos h]; exact ih.trans ((decl_le _).trans ((kw_le _ _).trans (pk_le _ _)))
  | case2 S h => rw [ims, dif_neg h]; exact pk_le _ _
/-- The whole of what is left. -/
def whole (S : RS) : RS := if h : S.go = true then whole (rb S).1 else S
termination_by S.mu
decreasing_by exact rb_lt (go_eof h)
theorem whole_le (S : RS) : Le (whole S) S := by
  induction S using whole.induct with
  | case1 S h ih => rw [whole, dif_pos h]; exact ih.trans (rb_le S)
  | case2 S h => rw [whole, dif_neg h]; exact Le.refl _

def bomL : List UInt8 := [239, 187, 191]
def start (data : List UInt8) : RS := { rest := if data.take 3 = bomL then data.drop 3 else data, buf := [], peek := 0, err := .no, eof := false, nerr := 0 }
/-- Where the reading of imports stops. -/
def stop (data : List UInt8) : RS × List (List UInt8) := ims (ident (kw packageK (start data)))
/-- What is read up to the end of the imports, and the imports. -/
def readIm (report : Bool) (data : List UInt8) : Option (List UInt8 × List (List UInt8)) :=
  if (stop data).1.go = true then some ((stop data).1.buf.dropLast, (stop data).2)
  else if (stop data).1.err = .syn ∧ report = false then
    if (whole { (stop data).1 with err := .no }).err = .no then some ((whole { (stop data).1 with err := .no }).buf, (stop data).2) else none
  else if (stop data).1.err = .no then some ((stop data).1.buf, (stop data).2) else none
/-- The leading comments. -/
def readCm (data : List UInt8) : Option (List UInt8) :=
  if (pk true (start data)).1.err = .no then some (if (pk true (start data)).1.eof = true then (pk true (start data)).1.buf else (pk true (start data)).1.buf.dropLast) else none

theorem works_im : readIm true [112, 97, 99, 107, 97, 103, 101, 32, 112, 10, 105, 109, 112, 111, 114, 116, 32, 34, 97, 34, 10, 118, 97, 114, 32, 120, 32, 105, 110, 116, 10] = some ([112, 97, 99, 107, 97, 103, 101, 32, 112, 10, 105, 109, 112, 111, 114, 116, 32, 34, 97, 34, 10], [[34, 97, 34]]) := by decide +kernel
theorem works_cm : readCm [47, 47, 32, 97, 10, 112, 97, 99, 107, 97, 103, 101, 32, 112, 10] = some [47, 47, 32, 97, 10] := by decide +kernel
end Go.Proofs.YtgplcbobomainaaDoor
