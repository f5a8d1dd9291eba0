/-
  The plain reader over a whole file: its imports; a file that begins with another word; its comments.
-/
import Derived.Test.YtgplcbobomainaaDoorLaD
namespace Go.Proofs.YtgplcbobomainaaDoor
set_option linter.unusedVariables false
set_option linter.unusedSimpArgs false

structure Im where
  nm : List UInt8
  lit : List UInt8
  g1 : List UInt8
  g2 : List UInt8
/-- A gap behind a word: not empty, and no byte of a name. -/
def GapK (g : List UInt8) : Prop := gapB .sp g = true ∧ ∃ y t, g = y :: t ∧ isId y = false ∧ y ≠ 0
structure ImOk (x : Im) : Prop where
  nm : IsNm x.nm
  lit : IsLit x.lit
  g1 : GapK x.g1
  g2 : gapB .sp x.g2 = true
def unT : List Im → List UInt8
  | [] => []
  | x :: t => importK ++ x.g1 ++ clauseL x.nm x.lit ++ x.g2 ++ unT t
def grT : List Im → List UInt8
  | [] => []
  | x :: t => clauseL x.nm x.lit ++ x.g2 ++ grT t
/-- What can follow. -/
def Foll (rest : List UInt8) : Prop := rest = [] ∨ ∃ x r, rest = x :: r ∧ stp x = true ∧ x ≠ 105
def Fin (b rest : List UInt8) (S : RS) : Prop := (rest = [] ∧ S = Z0 b) ∨ ∃ x r, rest = x :: r ∧ S = P0 b x r
theorem Foll.pk {S : RS} {b g rest : List UInt8} (hf : Foll rest) (h : Vr S b (g ++ rest)) (hg : gapB .sp g = true) : Fin (b ++ g) rest (pk true S).1 ∧ (pk true S).2 ≠ 105 := by
  rcases hf with rfl | ⟨x, r, rfl, hx, hi⟩
  · rw [List.append_nil] at h
    rw [pk_last h hg]
    exact ⟨.inl ⟨rfl, rfl⟩, show (0 : UInt8) ≠ 105 by decide⟩
  · rw [pk_gap h hg hx]
    exact ⟨.inr ⟨x, r, rfl, rfl⟩, hi⟩
theorem importK_nz' : ∀ x ∈ importK, x ≠ 0 := by decide
/-- The word import, behind a gap. -/
theorem import_ok {S : RS} {b g g1 t : List UInt8} (h : Vr S b (g ++ importK ++ g1 ++ t)) (hg : gapB .sp g = true) (h1 : GapK g1) : (pk true S).2 = 105 ∧ Vr (kw importK (pk true S).1) (b ++ g ++ importK) (g1 ++ t) := by
  obtain ⟨hg1, y, u, rfl, hy, hy0⟩ := h1
  have hp : pk true S = (P0 (b ++ g) 105 ([109, 112, 111, 114, 116] ++ (y :: u) ++ t), 105) := pk_gap (by unfold importK at h; simpa using h) hg (by decide)
  have hv : Vr (P0 (b ++ g) 105 ([109, 112, 111, 114, 116] ++ (y :: u) ++ t)) (b ++ g) ([] ++ (105 :: [109, 112, 111, 114, 116]) ++ y :: (u ++ t)) := by
    have := Vr.p (b := b ++ g) (r := [109, 112, 111, 114, 116] ++ (y :: u) ++ t) (show (105 : UInt8) ≠ 0 by decide)
    simpa using this
  have hk := kw_ok hv rfl (by decide) (by decide) hy hy0
  rw [hp]
  refine ⟨rfl, ?_⟩
  show Vr (kw (105 :: [109, 112, 111, 114, 116]) (P0 (b ++ g) 105 ([109, 112, 111, 114, 116] ++ (y :: u) ++ t))) _ _
  rw [hk, List.append_nil]
  exact Vr.p (r := u ++ t) hy0
theorem decl_one_ok {K : RS} {b g n l t : List UInt8} (h : Vr K b (g ++ clauseL n l ++ t)) (hg : gapB .sp g = true) (hn : IsNm n) (hl : IsLit l) : decl K = (A0 (b ++ g ++ clauseL n l) t, [l]) := by
  obtain ⟨c, u, e, hc, h40, _⟩ := clause_head hn hl
  have hp : pk true K = (P0 (b ++ g) c (u ++ t), c) := pk_gap (by rw [e] at h; simpa using h) hg hc
  have hv : Vr (P0 (b ++ g) c (u ++ t)) (b ++ g) ([] ++ clauseL n l ++ t) := by
    have := Vr.p (b := b ++ g) (r := u ++ t) (stp_parts hc).1
    rw [e]; simpa using this
  unfold decl
  rw [hp]
  show (if c = 40 then _ else imp (P0 (b ++ g) c (u ++ t))) = _
  rw [if_neg h40, imp_ok hv rfl hn hl, List.append_nil]
theorem grp_ok : ∀ (L : List Im) (S : RS) (b g t : List UInt8), (∀ x ∈ L, ImOk x) → gapB .sp g = true → Vr S b (g ++ grT L ++ 41 :: t) → grp S = (P0 (b ++ g ++ grT L) 41 t, L.map (·.lit))
  | [], S, b, g, t, _, hg, h => by
    have hp : pk true S = (P0 (b ++ g) 41 t, 41) := pk_gap (by simpa [grT] using h) hg (by decide)
    rw [grp_end1 (by rw [hp]), hp]
    simp [grT]
  | x :: L, S, b, g, t, hL, hg, h => by
    have hx := hL x (by simp)
    obtain ⟨c, u, e, hc, h40, h41⟩ := clause_head hx.nm hx.lit
    have h' : Vr S b (g ++ clauseL x.nm x.lit ++ (x.g2 ++ grT L ++ 41 :: t)) := by
      unfold grT at h; simpa using h
    have hp : pk true S = (P0 (b ++ g) c (u ++ (x.g2 ++ grT L ++ 41 :: t)), c) := pk_gap (by rw [e] at h'; simpa using h') hg hc
    have hv : Vr (P0 (b ++ g) c (u ++ (x.g2 ++ grT L ++ 41 :: t))) (b ++ g) ([] ++ clauseL x.nm x.lit ++ (x.g2 ++ grT L ++ 41 :: t)) := by
      have := Vr.p (b := b ++ g) (r := u ++ (x.g2 ++ grT L ++ 41 :: t)) (stp_parts hc).1
      rw [e]; simpa using this
    have hi := imp_ok hv rfl hx.nm hx.lit
    rw [grp_more (by rw [hp]; exact h41) (by rw [hp]; rfl), hp]
    show ((grp (imp (P0 (b ++ g) c (u ++ (x.g2 ++ grT L ++ 41 :: t)))).1).1, (imp (P0 (b ++ g) c (u ++ (x.g2 ++ grT L ++ 41 :: t)))).2 ++ (grp (imp (P0 (b ++ g) c (u ++ (x.g2 ++ grT L ++ 41 :: t)))).1).2) = _
    rw [hi]
    have ih := grp_ok L (A0 (b ++ g ++ [] ++ clauseL x.nm x.lit) (x.g2 ++ grT L ++ 41 :: t)) _ x.g2 t (fun y hy => hL y (by simp [hy])) hx.g2 Vr.a
    rw [ih]
    simp [grT]
theorem ims_un : ∀ (L : List Im) (S : RS) (b g rest : List UInt8), Foll rest → (∀ x ∈ L, ImOk x) → gapB .sp g = true → Vr S b (g ++ unT L ++ rest) → Fin (b ++ g ++ unT L) rest (ims S).1 ∧ (ims S).2 = L.map (·.lit)
  | [], S, b, g, rest, hf, _, hg, h => by
    have h' : Vr S b (g ++ rest) := by simpa [unT] using h
    obtain ⟨h1, h2⟩ := hf.pk h' hg
    rw [ims_end h2]
    exact ⟨by simpa [unT] using h1, rfl⟩
  | x :: L, S, b, g, rest, hf, hL, hg, h => by
    have hx := hL x (by simp)
    have h' : Vr S b (g ++ importK ++ x.g1 ++ (clauseL x.nm x.lit ++ (x.g2 ++ unT L ++ rest))) := by
      unfold unT at h; simpa using h
    obtain ⟨h1, h2⟩ := import_ok h' hg hx.g1
    have h3 : Vr (kw importK (pk true S).1) (b ++ g ++ importK) (x.g1 ++ clauseL x.nm x.lit ++ (x.g2 ++ unT L ++ rest)) := by simpa using h2
    have hd := decl_one_ok h3 hx.g1.1 hx.nm hx.lit
    rw [ims_more h1, hd]
    have ih := ims_un L (A0 (b ++ g ++ importK ++ x.g1 ++ clauseL x.nm x.lit) (x.g2 ++ unT L ++ rest)) _ x.g2 rest hf (fun y hy => hL y (by simp [hy])) hx.g2 Vr.a
    refine ⟨?_, ?_⟩
    · have := ih.1
      simpa [unT] using this
    · show [x.lit] ++ (ims (A0 (b ++ g ++ importK ++ x.g1 ++ clauseL x.nm x.lit) (x.g2 ++ unT L ++ rest))).2 = _
      rw [ih.2]; rfl
theorem ims_gr {L : List Im} {S : RS} {b g gA gB rest : List UInt8} (hf : Foll rest) (hL : ∀ x ∈ L, ImOk x) (hg : gapB .sp g = true) (hA : GapK gA) (hB : gapB .sp gB = true)
    (h : Vr S b (g ++ (importK ++ gA ++ [40] ++ grT L ++ [41] ++ gB) ++ rest)) : Fin (b ++ g ++ (importK ++ gA ++ [40] ++ grT L ++ [41] ++ gB)) rest (ims S).1 ∧ (ims S).2 = L.map (·.lit) := by
  have h' : Vr S b (g ++ importK ++ gA ++ (40 :: (grT L ++ 41 :: (gB ++ rest)))) := by simpa using h
  obtain ⟨h1, h2⟩ := import_ok h' hg hA
  rw [ims_more h1]
  generalize kw importK (pk true S).1 = K at *
  have hp : pk true K = (P0 (b ++ g ++ importK ++ gA) 40 (grT L ++ 41 :: (gB ++ rest)), 40) := pk_gap h2 hA.1 (by decide)
  have hn := nx_one (S := P0 (b ++ g ++ importK ++ gA) 40 (grT L ++ 41 :: (gB ++ rest))) (Vr.p (by decide)) (show (40 : UInt8) ≠ 0 by decide)
  have hgr := grp_ok L (A0 (b ++ g ++ importK ++ gA ++ [40]) (grT L ++ 41 :: (gB ++ rest))) _ [] (gB ++ rest) hL rfl Vr.a
  have hn2 := nx_one (S := P0 (b ++ g ++ importK ++ gA ++ [40] ++ [] ++ grT L) 41 (gB ++ rest)) (Vr.p (by decide)) (show (41 : UInt8) ≠ 0 by decide)
  have hd : decl K = (A0 (b ++ g ++ importK ++ gA ++ [40] ++ [] ++ grT L ++ [41]) (gB ++ rest), L.map (·.lit)) := by
    unfold decl
    rw [hp, if_pos rfl]
    show ((nx false (grp (nx false (P0 (b ++ g ++ importK ++ gA) 40 (grT L ++ 41 :: (gB ++ rest)))).1).1).1, (grp (nx false (P0 (b ++ g ++ importK ++ gA) 40 (grT L ++ 41 :: (gB ++ rest)))).1).2) = _
    rw [hn]
    show ((nx false (grp (A0 (b ++ g ++ importK ++ gA ++ [40]) (grT L ++ 41 :: (gB ++ rest)))).1).1, (grp (A0 (b ++ g ++ importK ++ gA ++ [40]) (grT L ++ 41 :: (gB ++ rest)))).2) = _
    rw [hgr]
    show ((nx false (P0 (b ++ g ++ importK ++ gA ++ [40] ++ [] ++ grT L) 41 (gB ++ rest))).1, _) = _
    rw [hn2]
  rw [hd]
  have he := ims_un [] (A0 (b ++ g ++ importK ++ gA ++ [40] ++ [] ++ grT L ++ [41]) (gB ++ rest)) (b ++ g ++ importK ++ gA ++ [40] ++ [] ++ grT L ++ [41]) gB rest hf (fun x hx => by cases hx) hB (by
    rw [show gB ++ unT [] ++ rest = gB ++ rest by simp [unT]]; exact Vr.a)
  refine ⟨?_, ?_⟩
  · simpa [unT] using he.1
  · show _ ++ (ims (A0 (b ++ g ++ importK ++ gA ++ [40] ++ [] ++ grT L ++ [41]) (gB ++ rest))).2 = _
    rw [he.2]; simp

/-- The imports' text. -/
def impsT (grouped : Bool) (gA gB : List UInt8) (L : List Im) : List UInt8 := if grouped = true ∧ L ≠ [] then importK ++ gA ++ [40] ++ grT L ++ [41] ++ gB else unT L
/-- A file up to what follows its imports. -/
def headT (ahead g0 g1 imps : List UInt8) : List UInt8 := ahead ++ packageK ++ g0 ++ [112] ++ g1 ++ imps
theorem packageK_nz' : ∀ x ∈ packageK, x ≠ 0 := by decide
theorem fin_readIm {rep : Bool} {data out rest : List UInt8} {L : List (List UInt8)} (h : Fin out rest (stop data).1) (hL : (stop data).2 = L) : readIm rep data = some (out, L) := by
  unfold readIm
  rcases h with ⟨rfl, h⟩ | ⟨x, r, rfl, h⟩
  · rw [h, hL, if_neg (show ¬ (Z0 out).go = true by unfold Z0 RS.go; simp), if_neg (show ¬ ((Z0 out).err = .syn ∧ rep = false) from fun e => by cases e.1), if_pos (show (Z0 out).err = .no from rfl)]; rfl
  · rw [h, hL, if_pos (show (P0 out x r).go = true from rfl)]
    unfold P0
    simp
theorem file_ok {ahead g0 g1 rest gA gB : List UInt8} {grouped rep : Bool} {L : List Im} (ha : gapB .sp ahead = true) (h0 : GapK g0) (h1 : GapK g1) (hA : GapK gA) (hB : gapB .sp gB = true) (hL : ∀ x ∈ L, ImOk x) (hf : Foll rest)
    (hasc : ∀ b ∈ headT ahead g0 g1 (impsT grouped gA gB L) ++ rest, b.toNat ≤ 127) :
    readIm rep (headT ahead g0 g1 (impsT grouped gA gB L) ++ rest) = some (headT ahead g0 g1 (impsT grouped gA gB L), L.map (·.lit)) := by
  have hs := start_vr hasc
  generalize hdat : headT ahead g0 g1 (impsT grouped gA gB L) ++ rest = data at *
  obtain ⟨hg0, y0, u0, rfl, hy0, hz0⟩ := h0
  obtain ⟨hg1, y1, u1, rfl, hy1, hz1⟩ := h1
  have hv : Vr (start data) [] (ahead ++ (112 :: [97, 99, 107, 97, 103, 101]) ++ y0 :: (u0 ++ 112 :: (y1 :: u1 ++ impsT grouped gA gB L ++ rest))) := by
    rw [hs, ← hdat]
    unfold headT packageK
    have := Vr.a (b := []) (l := ahead ++ (112 :: [97, 99, 107, 97, 103, 101]) ++ y0 :: (u0 ++ 112 :: (y1 :: u1 ++ impsT grouped gA gB L ++ rest)))
    simpa using this
  have hk := kw_ok hv ha (by decide) (by decide) hy0 hz0
  have hv2 : Vr (kw packageK (start data)) (ahead ++ packageK) ((y0 :: u0) ++ (112 :: []) ++ y1 :: (u1 ++ impsT grouped gA gB L ++ rest)) := by
    have e : kw packageK (start data) = P0 (ahead ++ packageK) y0 (u0 ++ 112 :: (y1 :: u1 ++ impsT grouped gA gB L ++ rest)) := by
      have := hk
      rw [List.nil_append] at this
      exact this
    rw [e]
    have := Vr.p (b := ahead ++ packageK) (r := u0 ++ 112 :: (y1 :: u1 ++ impsT grouped gA gB L ++ rest)) hz0
    simpa using this
  have hi := ident_ok hv2 hg0 (by decide) hy1 hz1
  have hv3 : Vr (ident (kw packageK (start data))) (ahead ++ packageK ++ (y0 :: u0) ++ [112]) ((y1 :: u1) ++ impsT grouped gA gB L ++ rest) := by
    rw [hi]
    have := Vr.p (b := ahead ++ packageK ++ (y0 :: u0) ++ [112]) (r := u1 ++ impsT grouped gA gB L ++ rest) hz1
    simpa using this
  have hfin : Fin (ahead ++ packageK ++ (y0 :: u0) ++ [112] ++ (y1 :: u1) ++ impsT grouped gA gB L) rest (stop data).1 ∧ (stop data).2 = L.map (·.lit) := by
    unfold stop
    unfold impsT at hv3 ⊢
    split at hv3
    · rename_i hc
      rw [if_pos hc]
      exact ims_gr hf hL hg1 hA hB hv3
    · rename_i hc
      rw [if_neg hc]
      exact ims_un L _ _ _ rest hf hL hg1 hv3
  exact fin_readIm hfin.1 hfin.2

/-- The leading comments. -/
theorem comments_ok {text rest : List UInt8} {x : UInt8} {r : List UInt8} (hg : gapB .sp text = true) (hr : rest = x :: r) (hx : stp x = true) (hasc : ∀ b ∈ text ++ rest, b.toNat ≤ 127) : readCm (text ++ rest) = some text := by
  subst hr
  have hv : Vr (start (text ++ x :: r)) [] (text ++ x :: r) := by rw [start_vr hasc]; exact Vr.a
  have hp := pk_gap hv hg hx
  unfold readCm
  rw [hp]
  rw [if_pos (show (P0 ([] ++ text) x r, x).1.err = .no from rfl), if_neg (show ¬ (P0 ([] ++ text) x r, x).1.eof = true from fun e => by cases e)]
  unfold P0
  simp

/-- Another word than package. -/
theorem nx_ei {S : RS} (sk : Bool) (h : EI S) : EI (nx sk S).1 := pk_ei sk h
theorem kwl_ei : ∀ (k : List UInt8) (S : RS), EI S → EI (kwl k S).1
  | [], S, h => h
  | c :: k, S, h => by
    rw [kwl]
    split
    · exact kwl_ei k _ (nx_ei false h)
    · exact syn_ei (nx_ei false h)
theorem kwl_no : ∀ (k : List UInt8) (S : RS) (b l : List UInt8), (∀ c ∈ k, c ≠ 0) → (∀ c ∈ l, c ≠ 0) → Vr S b l → ¬ k <+: l → (kwl k S).2 = false ∧ (kwl k S).1.err = .syn
  | [], S, b, l, _, _, _, hp => absurd (List.nil_prefix) hp
  | c :: k, S, b, l, hk, hl, hv, hp => by
    cases l with
    | nil =>
      have hS : S = A0 b [] := by
        rcases hv with h | ⟨x, r, _, e, _⟩
        · exact h
        · cases e
      subst hS
      have hn : nx false (A0 b []) = (Z0 b, 0) := by rfl
      rw [kwl, hn, if_neg (Ne.symm (hk c (by simp)))]
      exact ⟨rfl, rfl⟩
    | cons x t =>
      have hx := hl x (by simp)
      have hn := nx_one (x := x) (r := t) hv hx
      rw [kwl, hn]
      by_cases he : x = c
      · subst he
        rw [if_pos rfl]
        exact kwl_no k _ (b ++ [x]) t (fun y hy => hk y (by simp [hy])) (fun y hy => hl y (by simp [hy])) Vr.a (fun h => hp (List.cons_prefix_cons.2 ⟨rfl, h⟩))
      · rw [if_neg he]
        exact ⟨rfl, rfl⟩
theorem err_ident {S : RS} (h : S.err = .syn) : (ident S).err = .syn ∧ (ident S).eof = S.eof ∧ (ident S).rest = S.rest := by
  have hp : pk true S = ({ S with nerr := S.nerr + 1 }, 0) := pk_err (by rw [h]; decide)
  have h0 : isId (pk true S).2 = false := by rw [hp]; rfl
  unfold ident
  rw [if_neg (by rw [h0]; simp), hp]
  unfold syn
  show (if S.err = .no then _ else ({ S with nerr := S.nerr + 1 } : RS)).err = .syn ∧ (if S.err = .no then _ else ({ S with nerr := S.nerr + 1 } : RS)).eof = S.eof ∧ (if S.err = .no then _ else ({ S with nerr := S.nerr + 1 } : RS)).rest = S.rest
  rw [if_neg (by rw [h]; decide)]
  exact ⟨h, rfl, rfl⟩
theorem err_ims {S : RS} (h : S.err = .syn) : (ims S).1.err = .syn ∧ (ims S).1.eof = S.eof ∧ (ims S).1.rest = S.rest := by
  have hp : pk true S = ({ S with nerr := S.nerr + 1 }, 0) := pk_err (by rw [h]; decide)
  have h0 : (pk true S).2 ≠ 105 := by rw [hp]; show (0 : UInt8) ≠ 105; decide
  rw [ims_end h0, hp]
  exact ⟨h, rfl, rfl⟩
theorem whole_all (S : RS) : S.err = .no → EI S → (∀ b ∈ S.rest, b ≠ 0) → (whole S).err = .no ∧ (whole S).buf = S.buf ++ S.rest := by
  induction S using whole.induct with
  | case1 S h ih =>
    intro he hei hz
    rw [whole, dif_pos h]
    cases hr : S.rest with
    | nil =>
      have e := rb_nil hr
      rw [e]
      rw [whole_off (by unfold RS.go; simp)]
      exact ⟨he, by simp⟩
    | cons c t =>
      have hc := hz c (by rw [hr]; simp)
      have e := rb_cons hr hc
      have ih' := ih (by rw [e]; exact he) (rb_ei hei) (by rw [e]; intro b hb; exact hz b (by rw [hr]; simp; exact .inr hb))
      rw [e] at ih' ⊢
      refine ⟨ih'.1, ih'.2.trans ?_⟩
      simp
  | case2 S h =>
    intro he hei hz
    rw [whole, dif_neg h]
    have hf : S.eof = true := by
      unfold RS.go at h
      rw [he] at h
      simpa using h
    exact ⟨he, by rw [hei hf, List.append_nil]⟩
theorem wrong_ok {g w t : List UInt8} {c : UInt8} (hg : gapB .sp g = true) (hc : stp c = true) (hp : ¬ packageK <+: (c :: w)) (hs : ∀ x ∈ packageK, x ≠ 32) (hz : ∀ b ∈ g ++ (c :: w) ++ 32 :: t, b ≠ 0 ∧ b.toNat ≤ 127) :
    readIm true (g ++ (c :: w) ++ 32 :: t) = none ∧ ∃ L, readIm false (g ++ (c :: w) ++ 32 :: t) = some (g ++ (c :: w) ++ 32 :: t, L) := by
  have hst := start_vr (fun b hb => (hz b hb).2)
  have hz' : ∀ b ∈ g ++ (c :: w) ++ 32 :: t, b ≠ 0 := fun b hb => (hz b hb).1
  have hnp : ¬ packageK <+: (c :: w) ++ 32 :: t := by
    intro h
    rcases Nat.lt_or_ge (c :: w).length packageK.length with hl | hl
    · obtain ⟨z, e⟩ := h
      have h32 : packageK[(c :: w).length]? = some 32 := by
        have := congrArg (fun l : List UInt8 => l[(c :: w).length]?) e
        simp only [List.getElem?_append_left hl] at this
        rw [this, List.getElem?_append_right (Nat.le_refl _)]
        simp
      exact hs 32 (List.mem_of_getElem? h32) rfl
    · exact hp ((List.prefix_append_right_inj (l := []) |>.1 (by simpa using List.prefix_of_prefix_length_le h (List.prefix_append (c :: w) (32 :: t)) hl)))
  generalize hdat : g ++ (c :: w) ++ 32 :: t = data at *
  have hv : Vr (start data) [] (g ++ c :: (w ++ 32 :: t)) := by
    rw [hst, ← hdat]
    have := Vr.a (b := []) (l := g ++ c :: (w ++ 32 :: t))
    simpa using this
  have hpk := pk_gap hv hg hc
  have hkl := kwl_no packageK (pk true (start data)).1 g (c :: (w ++ 32 :: t)) packageK_nz' (fun x hx => hz' x (by rw [← hdat]; simp at hx ⊢; rcases hx with rfl | hx | rfl | hx <;> simp_all)) (by rw [hpk]; exact Vr.p (stp_parts hc).1) (by simpa using hnp)
  have hei : EI (kwl packageK (pk true (start data)).1).1 := kwl_ei _ _ (pk_ei true (fun e => by cases e))
  have hkw : kw packageK (start data) = (kwl packageK (pk true (start data)).1).1 := by
    unfold kw kwEnd
    rw [if_neg (by rw [hkl.1]; simp)]
  have h1 := err_ident (S := kw packageK (start data)) (by rw [hkw]; exact hkl.2)
  have h2 := err_ims (S := ident (kw packageK (start data))) h1.1
  have herr : (stop data).1.err = .syn := h2.1
  have hei2 : EI (stop data).1 := by
    intro he
    have e1 : (stop data).1.eof = (kwl packageK (pk true (start data)).1).1.eof := h2.2.1.trans (h1.2.1.trans (by rw [hkw]))
    have e2 : (stop data).1.rest = (kwl packageK (pk true (start data)).1).1.rest := h2.2.2.trans (h1.2.2.trans (by rw [hkw]))
    rw [e2]
    exact hei (by rw [← e1]; exact he)
  have hall : (stop data).1.buf ++ (stop data).1.rest = data := by
    have := (stop_le data).all
    rw [hst] at this
    exact this
  have hw := whole_all { (stop data).1 with err := .no } rfl hei2 (fun b hb => hz' b (by rw [← hall]; exact List.mem_append_right _ hb))
  constructor
  · unfold readIm
    rw [if_neg (by unfold RS.go; rw [herr]; simp), if_neg (by simp), if_neg (by rw [herr]; simp)]
  · refine ⟨(stop data).2, ?_⟩
    unfold readIm
    rw [if_neg (by unfold RS.go; rw [herr]; simp), if_pos ⟨herr, rfl⟩, if_pos hw.1, hw.2]
    show some ((stop data).1.buf ++ (stop data).1.rest, _) = _
    rw [hall]
end Go.Proofs.YtgplcbobomainaaDoor
