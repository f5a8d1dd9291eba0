/-
  The plain reader over gaps: spaces and comments.
-/
import Derived.Test.YtgplcbobomainaaDoorLaB
namespace Go.Proofs.YtgplcbobomainaaDoor
set_option linter.unusedVariables false
set_option linter.unusedSimpArgs false

/-- Between two words: where a gap's text stands. -/
inductive Md where
  | sp
  | sl
  | ln
  | bk (c : UInt8)
def gapB : Md → List UInt8 → Bool
  | .sp, [] => true
  | _, [] => false
  | .sp, c :: t => if isSp c then gapB .sp t else if c = 47 then gapB .sl t else false
  | .sl, c :: t => if c = 47 then gapB .ln t else if c = 42 then gapB (.bk 0) t else false
  | .ln, c :: t => if c = 10 then gapB .sp t else if c = 0 then false else gapB .ln t
  | .bk p, c :: t => if c = 0 then false else if p = 42 ∧ c = 47 then gapB .sp t else gapB (.bk c) t
def sk (S : RS) : RS × UInt8 := skip (rb S).1 (rb S).2
def goOn : Md → RS → RS × UInt8
  | .sp, S => sk S
  | .sl, S => sk (cmt (rb S).1 (rb S).2)
  | .ln, S => sk (line (rb S).1 (rb S).2).1
  | .bk p, S => sk (block (rb (bstep S)).1 p (rb (bstep S)).2).1
def adv (S : RS) (g r : List UInt8) : RS := { S with rest := r, buf := S.buf ++ g }
theorem adv_go {S : RS} {g r : List UInt8} : (adv S g r).go = S.go := rfl
theorem adv_adv {S : RS} {g h r r' : List UInt8} : adv (adv S g r) h r' = adv S (g ++ h) r' := by unfold adv; simp
theorem rb_adv {S : RS} {c : UInt8} {t : List UInt8} (h : S.rest = c :: t) (hc : c ≠ 0) : rb S = (adv S [c] t, c) := rb_cons h hc
theorem gsp_ne {c : UInt8} (h : isSp c = true) : c ≠ 0 := by rintro rfl; exact absurd h (by decide)
theorem go_parts {S : RS} (h : S.go = true) : S.err = .no ∧ S.eof = false := ⟨go_err h, go_eof h⟩
theorem run_gap (g : List UInt8) : ∀ (m : Md) (S : RS) (r : List UInt8), gapB m g = true → S.go = true → S.rest = g ++ r → goOn m S = sk (adv S g r) := by
  induction g with
  | nil =>
    intro m S r hg hgo hr
    cases m <;> simp [gapB] at hg
    have e : adv S [] r = S := by unfold adv; rw [List.append_nil, ← (show S.rest = r from hr)]
    rw [e]; rfl
  | cons c t ih =>
    intro m S r hg hgo hr
    have hr' : S.rest = c :: (t ++ r) := hr
    have nxt : ∀ m', gapB m' t = true → c ≠ 0 → goOn m' (adv S [c] (t ++ r)) = sk (adv S (c :: t) r) := fun m' h0 _ => by
      rw [ih m' (adv S [c] (t ++ r)) r h0 hgo rfl, adv_adv]; rfl
    have hbs : bstep S = S := by unfold bstep; rw [if_neg (by rw [(go_parts hgo).2]; simp)]
    cases m with
    | sp =>
      rw [gapB] at hg
      split at hg
      · rename_i hs
        have hc := gsp_ne hs
        rw [← nxt .sp hg hc]
        show skip (rb S).1 (rb S).2 = _
        rw [rb_adv hr' hc, skip, dif_pos ⟨hgo, hs⟩]; rfl
      · rename_i hs
        split at hg
        · rename_i h47
          subst h47
          rw [← nxt .sl hg (by decide)]
          show skip (rb S).1 (rb S).2 = _
          rw [rb_adv hr' (by decide), skip, dif_neg (fun e => hs e.2), dif_pos ⟨hgo, rfl⟩]; rfl
        · cases hg
    | sl =>
      rw [gapB] at hg
      split at hg
      · rename_i h47
        subst h47
        rw [← nxt .ln hg (by decide)]
        show sk (cmt (rb S).1 (rb S).2) = _
        rw [rb_adv hr' (by decide)]
        show sk (cmt (adv S [47] (t ++ r)) 47) = _
        unfold cmt
        rw [if_pos rfl, line, dif_pos ⟨by decide, hgo⟩]; rfl
      · split at hg
        · rename_i h42
          subst h42
          rw [← nxt (.bk 0) hg (by decide)]
          show sk (cmt (rb S).1 (rb S).2) = _
          rw [rb_adv hr' (by decide)]
          show sk (cmt (adv S [42] (t ++ r)) 42) = _
          unfold cmt
          rw [if_neg (by decide), if_pos rfl, block, dif_pos ⟨.inr (by decide), (go_parts hgo).1⟩]; rfl
        · cases hg
    | ln =>
      rw [gapB] at hg
      split at hg
      · rename_i h10
        subst h10
        rw [← nxt .sp hg (by decide)]
        show sk (line (rb S).1 (rb S).2).1 = _
        rw [rb_adv hr' (by decide)]
        show sk (line (adv S [10] (t ++ r)) 10).1 = _
        rw [line, dif_neg (fun e => e.1 rfl)]; rfl
      · rename_i h10
        split at hg
        · cases hg
        · rename_i h0
          rw [← nxt .ln hg h0]
          show sk (line (rb S).1 (rb S).2).1 = _
          rw [rb_adv hr' h0]
          show sk (line (adv S [c] (t ++ r)) c).1 = _
          rw [line, dif_pos ⟨h10, hgo⟩]; rfl
    | bk p =>
      rw [gapB] at hg
      split at hg
      · cases hg
      · rename_i h0
        split at hg
        · rename_i h
          rw [← nxt .sp hg h0]
          show sk (block (rb (bstep S)).1 p (rb (bstep S)).2).1 = _
          rw [hbs, rb_adv hr' h0]
          show sk (block (adv S [c] (t ++ r)) p c).1 = _
          rw [block, dif_neg (fun e => by rcases e.1 with e | e; exact e h.1; exact e h.2)]; rfl
        · rename_i h
          rw [← nxt (.bk c) hg h0]
          show sk (block (rb (bstep S)).1 p (rb (bstep S)).2).1 = _
          rw [hbs, rb_adv hr' h0]
          show sk (block (adv S [c] (t ++ r)) p c).1 = _
          rw [block, dif_pos ⟨by
            by_cases hp : p = 42
            · exact .inr (fun e => h ⟨hp, e⟩)
            · exact .inl hp, (go_parts hgo).1⟩]; rfl
/-- Gaps one behind the other. -/
theorem gap_app {g h : List UInt8} (hh : gapB .sp h = true) : ∀ m, gapB m g = true → gapB m (g ++ h) = true := by
  induction g with
  | nil => intro m hg; cases m <;> simp [gapB] at hg; exact hh
  | cons c t ih =>
    intro m hg
    cases m <;> rw [gapB] at hg <;> rw [List.cons_append, gapB] <;> repeat' split <;> simp_all

/-- A byte that ends a gap. -/
def stp (x : UInt8) : Bool := !(x == 0) && !(isSp x) && !(x == 47)
theorem stp_parts {x : UInt8} (h : stp x = true) : x ≠ 0 ∧ isSp x = false ∧ x ≠ 47 := by
  unfold stp at h
  simp at h
  exact ⟨h.1.1, h.1.2, h.2⟩
/-- Nothing looked at; a byte looked at; at the end. -/
def A0 (b l : List UInt8) : RS := { rest := l, buf := b, peek := 0, err := .no, eof := false, nerr := 0 }
def P0 (b : List UInt8) (x : UInt8) (r : List UInt8) : RS := { rest := r, buf := b ++ [x], peek := x, err := .no, eof := false, nerr := 0 }
def Z0 (b : List UInt8) : RS := { rest := [], buf := b, peek := 0, err := .no, eof := true, nerr := 0 }
/-- What is still to come, with the byte that was looked at. -/
def Vr (S : RS) (b l : List UInt8) : Prop := S = A0 b l ∨ ∃ x r, x ≠ 0 ∧ l = x :: r ∧ S = P0 b x r
theorem Vr.a {b l : List UInt8} : Vr (A0 b l) b l := .inl rfl
theorem Vr.p {b r : List UInt8} {x : UInt8} (h : x ≠ 0) : Vr (P0 b x r) b (x :: r) := .inr ⟨x, r, h, rfl, rfl⟩
theorem Vr.err {S : RS} {b l : List UInt8} (h : Vr S b l) : S.err = .no := by
  rcases h with rfl | ⟨x, r, _, _, rfl⟩ <;> rfl
/-- The first byte, and past the gap. -/
theorem first_sk {S : RS} {b l : List UInt8} (h : Vr S b l) : ∃ k, skip (first S).1 (first S).2 = sk { rest := l, buf := b, peek := k, err := .no, eof := false, nerr := 0 } := by
  rcases h with rfl | ⟨x, r, hx, rfl, rfl⟩
  · exact ⟨0, rfl⟩
  · refine ⟨x, ?_⟩
    have e1 : first (P0 b x r) = (P0 b x r, x) := by
      unfold first P0
      rw [if_neg hx]
    rw [e1]
    unfold sk
    rw [rb_cons (c := x) (t := r) rfl hx]
    rfl
theorem sk_stop {b g r : List UInt8} {x k : UInt8} (hg : gapB .sp g = true) (hx : stp x = true) : sk { rest := g ++ x :: r, buf := b, peek := k, err := .no, eof := false, nerr := 0 } = ({ rest := r, buf := b ++ g ++ [x], peek := k, err := .no, eof := false, nerr := 0 }, x) := by
  obtain ⟨h0, h1, h2⟩ := stp_parts hx
  have h := run_gap g .sp { rest := g ++ x :: r, buf := b, peek := k, err := .no, eof := false, nerr := 0 } (x :: r) hg rfl rfl
  rw [show goOn .sp _ = sk _ from rfl] at h
  rw [h]
  unfold sk
  rw [rb_adv (S := adv _ g (x :: r)) (c := x) (t := r) rfl h0]
  exact skip_id h1 h2
theorem sk_end {b g : List UInt8} {k : UInt8} (hg : gapB .sp g = true) : sk { rest := g, buf := b, peek := k, err := .no, eof := false, nerr := 0 } = ({ rest := [], buf := b ++ g, peek := k, err := .no, eof := true, nerr := 0 }, 0) := by
  have h := run_gap g .sp { rest := g, buf := b, peek := k, err := .no, eof := false, nerr := 0 } [] hg rfl (by simp)
  rw [show goOn .sp _ = sk _ from rfl] at h
  rw [h]
  unfold sk
  rw [rb_nil (S := adv _ g []) rfl]
  exact skip_end rfl 0
theorem pk_gap {S : RS} {b g r : List UInt8} {x : UInt8} (h : Vr S b (g ++ x :: r)) (hg : gapB .sp g = true) (hx : stp x = true) : pk true S = (P0 (b ++ g) x r, x) := by
  rw [pk_no h.err]
  obtain ⟨k, hk⟩ := first_sk h
  have e : skipIf true (first S) = ({ rest := r, buf := b ++ g ++ [x], peek := k, err := .no, eof := false, nerr := 0 }, x) := by
    unfold skipIf
    rw [if_pos rfl, hk, sk_stop hg hx]
  rw [e]; rfl
theorem pk_last {S : RS} {b g : List UInt8} (h : Vr S b g) (hg : gapB .sp g = true) : pk true S = (Z0 (b ++ g), 0) := by
  rw [pk_no h.err]
  obtain ⟨k, hk⟩ := first_sk h
  have e : skipIf true (first S) = ({ rest := [], buf := b ++ g, peek := k, err := .no, eof := true, nerr := 0 }, 0) := by
    unfold skipIf
    rw [if_pos rfl, hk, sk_end hg]
  rw [e]; rfl
theorem nx_gap {S : RS} {b g r : List UInt8} {x : UInt8} (h : Vr S b (g ++ x :: r)) (hg : gapB .sp g = true) (hx : stp x = true) : nx true S = (A0 (b ++ g ++ [x]) r, x) := by
  unfold nx; rw [pk_gap h hg hx]; rfl
theorem pk_one {S : RS} {b r : List UInt8} {x : UInt8} (h : Vr S b (x :: r)) (hx : x ≠ 0) : pk false S = (P0 b x r, x) := by
  rw [pk_no h.err]
  have e : skipIf false (first S) = first S := by unfold skipIf; rw [if_neg (by simp)]
  rw [e]
  rcases h with rfl | ⟨y, t, hy, e2, rfl⟩
  · have e1 : first (A0 b (x :: r)) = (adv (A0 b (x :: r)) [x] r, x) := by
      unfold first A0
      rw [if_pos rfl, rb_adv rfl hx]
    rw [e1]; rfl
  · injection e2 with e2 e3
    subst e2; subst e3
    have e1 : first (P0 b x r) = (P0 b x r, x) := by
      unfold first P0
      rw [if_neg hx]
    rw [e1]; rfl
theorem nx_one {S : RS} {b r : List UInt8} {x : UInt8} (h : Vr S b (x :: r)) (hx : x ≠ 0) : nx false S = (A0 (b ++ [x]) r, x) := by
  unfold nx; rw [pk_one h hx]; rfl
theorem start_vr {data : List UInt8} (h : ∀ b ∈ data, b.toNat ≤ 127) : start data = A0 [] data := by
  rw [start_rest, ascii_start h]; rfl

/-- Comments of one line each. -/
def comL : List (List UInt8) → List UInt8
  | [] => []
  | s :: t => (if s = [] then [10] else [47, 47, 32, 45, 32] ++ s ++ [10]) ++ comL t
def lineOk (s : List UInt8) : Bool := s.all fun b => !(b == 0) && decide (b.toNat ≤ 127) && !(b == 10) && !(b == 13)
theorem gap_ln {s h : List UInt8} (hs : lineOk s = true) (hh : gapB .sp h = true) : gapB .ln (s ++ 10 :: h) = true := by
  induction s with
  | nil => exact hh
  | cons c t ih =>
    unfold lineOk at hs
    rw [List.all_cons, Bool.and_eq_true] at hs
    obtain ⟨h1, h2⟩ := hs
    simp at h1
    rw [List.cons_append, gapB, if_neg h1.1.2, if_neg h1.1.1.1]
    exact ih h2
theorem gap_com {L : List (List UInt8)} (h : L.all lineOk = true) : gapB .sp (comL L) = true := by
  induction L with
  | nil => rfl
  | cons s t ih =>
    rw [List.all_cons, Bool.and_eq_true] at h
    unfold comL
    split
    · exact gap_app (ih h.2) .sp (g := [10]) rfl
    · have := gap_ln h.1 (ih h.2)
      show gapB .sp (([47, 47, 32, 45, 32] ++ s ++ [10]) ++ comL t) = true
      rw [List.append_assoc, List.append_assoc]
      exact this
theorem com_ascii {L : List (List UInt8)} (h : L.all lineOk = true) : ∀ b ∈ comL L, b.toNat ≤ 127 := by
  induction L with
  | nil => intro b hb; cases hb
  | cons s t ih =>
    rw [List.all_cons, Bool.and_eq_true] at h
    intro b hb
    unfold comL at hb
    rcases List.mem_append.1 hb with hb | hb
    · split at hb
      · rw [List.mem_singleton] at hb; subst hb; decide
      · rcases List.mem_append.1 hb with hb | hb
        · rcases List.mem_append.1 hb with hb | hb
          · exact (show ∀ b ∈ ([47, 47, 32, 45, 32] : List UInt8), b.toNat ≤ 127 by decide) b hb
          · have := List.all_eq_true.1 h.1 b hb
            simp at this
            exact this.1.1.2
        · rw [List.mem_singleton] at hb; subst hb; decide
    · exact ih h.2 b hb
end Go.Proofs.YtgplcbobomainaaDoor
