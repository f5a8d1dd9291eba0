/-
  The plain reader over words and literals.
-/
import Derived.Test.YtgplcbobomainaaDoorLaC
namespace Go.Proofs.YtgplcbobomainaaDoor
set_option linter.unusedVariables false
set_option linter.unusedSimpArgs false

theorem stp_id {c : UInt8} (h : isId c = true) : stp c = true := by
  unfold stp
  have h0 := id_ne h
  have h1 : isSp c = false := by
    cases hs : isSp c with
    | false => rfl
    | true =>
      unfold isSp at hs
      simp at hs
      rcases hs with ((((rfl | rfl) | rfl) | rfl) | rfl) | rfl <;> exact absurd h (by decide)
  have h2 : c ≠ 47 := by rintro rfl; exact absurd h (by decide)
  simp [h0, h1, h2]

theorem kwl_ok : ∀ (k : List UInt8) (S : RS) (b t : List UInt8), (∀ c ∈ k, c ≠ 0) → Vr S b (k ++ t) → (kwl k S).2 = true ∧ Vr (kwl k S).1 (b ++ k) t
  | [], S, b, t, _, h => ⟨rfl, by rw [List.append_nil]; exact h⟩
  | c :: k, S, b, t, hz, h => by
    have hn := nx_one (x := c) (r := k ++ t) h (hz c (by simp))
    rw [kwl, hn, if_pos rfl]
    have := kwl_ok k (A0 (b ++ [c]) (k ++ t)) (b ++ [c]) t (fun x hx => hz x (by simp [hx])) Vr.a
    rw [List.append_assoc] at this
    exact this
theorem kw_ok {S : RS} {b g k t : List UInt8} {c y : UInt8} (h : Vr S b (g ++ (c :: k) ++ y :: t)) (hg : gapB .sp g = true) (hc : stp c = true) (hz : ∀ x ∈ c :: k, x ≠ 0) (hy : isId y = false) (hy0 : y ≠ 0) : kw (c :: k) S = P0 (b ++ g ++ (c :: k)) y t := by
  have hp : pk true S = (P0 (b ++ g) c (k ++ y :: t), c) := pk_gap (by simpa using h) hg hc
  have hk := kwl_ok (c :: k) (P0 (b ++ g) c (k ++ y :: t)) (b ++ g) (y :: t) hz (Vr.p (r := k ++ y :: t) (hz c (by simp)))
  unfold kw kwEnd
  rw [hp]
  have h1 := pk_one hk.2 hy0
  rw [if_pos hk.1]
  show (if isId (pk false (kwl (c :: k) (P0 (b ++ g) c (k ++ y :: t))).1).2 = true then _ else (pk false (kwl (c :: k) (P0 (b ++ g) c (k ++ y :: t))).1).1) = _
  rw [h1, if_neg (by rw [hy]; simp)]
theorem idl_ok : ∀ (n : List UInt8) (S : RS) (b t : List UInt8) (y : UInt8), Vr S b (n ++ y :: t) → (∀ c ∈ n, isId c = true) → isId y = false → y ≠ 0 → idl S = P0 (b ++ n) y t
  | [], S, b, t, y, h, _, hy, hy0 => by
    have h1 := nx_one (x := y) (r := t) h hy0
    rw [idl, dif_neg (by rw [h1, hy]; simp), pk_one (x := y) (r := t) h hy0, List.append_nil]
  | c :: n, S, b, t, y, h, hn, hy, hy0 => by
    have hc := hn c (by simp)
    have h1 := nx_one (x := c) (r := n ++ y :: t) h (id_ne hc)
    rw [idl, dif_pos (by rw [h1]; exact hc), h1]
    have := idl_ok n (A0 (b ++ [c]) (n ++ y :: t)) (b ++ [c]) t y Vr.a (fun x hx => hn x (by simp [hx])) hy hy0
    rw [List.append_assoc] at this
    exact this
theorem ident_ok {S : RS} {b g n t : List UInt8} {c y : UInt8} (h : Vr S b (g ++ (c :: n) ++ y :: t)) (hg : gapB .sp g = true) (hn : ∀ x ∈ c :: n, isId x = true) (hy : isId y = false) (hy0 : y ≠ 0) : ident S = P0 (b ++ g ++ (c :: n)) y t := by
  have hc := hn c (by simp)
  have hp : pk true S = (P0 (b ++ g) c (n ++ y :: t), c) := pk_gap (by simpa using h) hg (stp_id hc)
  unfold ident
  rw [hp, if_pos hc]
  exact idl_ok (c :: n) _ (b ++ g) t y (Vr.p (r := n ++ y :: t) (id_ne hc)) hn hy hy0

/-- A byte of a literal. -/
def litC (q c : UInt8) : Bool := decide (32 ≤ c.toNat) && decide (c.toNat ≤ 126) && !(c == q) && !(c == 92)
theorem litC_parts {q c : UInt8} (h : litC q c = true) : c ≠ 0 ∧ c ≠ 10 ∧ c ≠ q ∧ c ≠ 92 ∧ c.toNat ≤ 127 := by
  unfold litC at h
  simp at h
  obtain ⟨⟨⟨h1, h2⟩, h3⟩, h4⟩ := h
  refine ⟨?_, ?_, h3, h4, by omega⟩
  · rintro rfl; exact absurd h1 (by decide)
  · rintro rfl; exact absurd h1 (by decide)
def IsLit (l : List UInt8) : Prop := ∃ q body, l = q :: (body ++ [q]) ∧ (q = 34 ∨ q = 96) ∧ body.all (litC q) = true
theorem all_tail {α : Type} {p : α → Bool} {c : α} {t : List α} (h : (c :: t).all p = true) : p c = true ∧ t.all p = true := by
  rw [List.all_cons, Bool.and_eq_true] at h; exact h
theorem estep_no {b : Bool} {S : RS} (h : S.eof = false) (hb : b = false) : estep b S = S := by
  unfold estep; rw [if_neg (by rw [h, hb]; simp)]
theorem quo_ok : ∀ (body : List UInt8) (b t : List UInt8), body.all (litC 34) = true → quo (A0 b (body ++ 34 :: t)) = (A0 (b ++ body ++ [34]) t, true)
  | [], b, t, _ => by
    have h1 := nx_one (S := A0 b (34 :: t)) Vr.a (show (34 : UInt8) ≠ 0 by decide)
    rw [List.nil_append, quo, dif_pos (show (A0 _ _).err = Er.no from rfl), h1, if_pos rfl, List.append_nil]
  | c :: body, b, t, hb => by
    obtain ⟨hc, hb'⟩ := all_tail hb
    obtain ⟨h0, h10, hq, h92, _⟩ := litC_parts hc
    have h1 := nx_one (S := A0 b (c :: (body ++ 34 :: t))) Vr.a h0
    rw [List.cons_append, quo, dif_pos (show (A0 _ _).err = Er.no from rfl), h1, if_neg hq]
    show quo (after c (estep (c == 10) (A0 (b ++ [c]) (body ++ 34 :: t)))) = _
    rw [estep_no rfl (by simpa using h10)]
    unfold after
    rw [if_neg h92, quo_ok body (b ++ [c]) t hb']
    simp
theorem raw_ok : ∀ (body : List UInt8) (b t : List UInt8), body.all (litC 96) = true → raw (A0 b (body ++ 96 :: t)) = (A0 (b ++ body ++ [96]) t, true)
  | [], b, t, _ => by
    have h1 := nx_one (S := A0 b (96 :: t)) Vr.a (show (96 : UInt8) ≠ 0 by decide)
    rw [List.nil_append, raw, dif_pos (show (A0 _ _).err = Er.no from rfl), h1, if_pos rfl, List.append_nil]
  | c :: body, b, t, hb => by
    obtain ⟨hc, hb'⟩ := all_tail hb
    obtain ⟨h0, h10, hq, h92, _⟩ := litC_parts hc
    have h1 := nx_one (S := A0 b (c :: (body ++ 96 :: t))) Vr.a h0
    rw [List.cons_append, raw, dif_pos (show (A0 _ _).err = Er.no from rfl), h1, if_neg hq]
    show raw (estep false (A0 (b ++ [c]) (body ++ 96 :: t))) = _
    rw [estep_no rfl rfl, raw_ok body (b ++ [c]) t hb']
    simp
theorem str_ok {S : RS} {b g l t : List UInt8} (h : Vr S b (g ++ l ++ t)) (hg : gapB .sp g = true) (hl : IsLit l) : str S = (A0 (b ++ g ++ l) t, [l]) := by
  obtain ⟨q, body, rfl, hq, hb⟩ := hl
  have hs : stp q = true := by rcases hq with rfl | rfl <;> decide
  have hn : nx true S = (A0 (b ++ g ++ [q]) (body ++ q :: t), q) := nx_gap (by simpa using h) hg hs
  have hlen : (b ++ g ++ [q]).length - 1 = (b ++ g).length := by simp
  have hdrop : ∀ z : List UInt8, (b ++ g ++ [q] ++ body ++ z).drop (b ++ g).length = q :: (body ++ z) := fun z => by
    rw [List.append_assoc (b ++ g ++ [q]), List.append_assoc (b ++ g), List.drop_left]; rfl
  unfold str
  rw [hn]
  rcases hq with rfl | rfl
  · show (if (34 : UInt8) = 96 then _ else if (34 : UInt8) = 34 then ((quo (A0 (b ++ g ++ [34]) (body ++ 34 :: t))).1, saved ((A0 (b ++ g ++ [34]) (body ++ 34 :: t)).buf.length - 1) (quo (A0 (b ++ g ++ [34]) (body ++ 34 :: t)))) else _) = _
    rw [if_neg (by decide), if_pos rfl, quo_ok body _ t hb]
    unfold saved
    show (A0 (b ++ g ++ [34] ++ body ++ [34]) t, if true = true then [(b ++ g ++ [34] ++ body ++ [34]).drop ((b ++ g ++ [34]).length - 1)] else []) = _
    rw [if_pos rfl, hlen, hdrop]
    simp
  · show (if (96 : UInt8) = 96 then ((raw (A0 (b ++ g ++ [96]) (body ++ 96 :: t))).1, saved ((A0 (b ++ g ++ [96]) (body ++ 96 :: t)).buf.length - 1) (raw (A0 (b ++ g ++ [96]) (body ++ 96 :: t)))) else _) = _
    rw [if_pos rfl, raw_ok body _ t hb]
    unfold saved
    show (A0 (b ++ g ++ [96] ++ body ++ [96]) t, if true = true then [(b ++ g ++ [96] ++ body ++ [96]).drop ((b ++ g ++ [96]).length - 1)] else []) = _
    rw [if_pos rfl, hlen, hdrop]
    simp

/-- The name of an import, or none, or a dot; its text. -/
def IsNm (n : List UInt8) : Prop := n = [] ∨ n = [46] ∨ (n ≠ [] ∧ ∀ c ∈ n, isId c = true)
def clauseL (n l : List UInt8) : List UInt8 := if n = [] then l else n ++ 32 :: l
theorem clause_head {n l : List UInt8} (hn : IsNm n) (hl : IsLit l) : ∃ c t, clauseL n l = c :: t ∧ stp c = true ∧ c ≠ 40 ∧ c ≠ 41 := by
  unfold clauseL
  split
  · obtain ⟨q, body, rfl, hq, hb⟩ := hl
    exact ⟨q, _, rfl, by rcases hq with rfl | rfl <;> decide, by rcases hq with rfl | rfl <;> decide, by rcases hq with rfl | rfl <;> decide⟩
  · rcases hn with rfl | rfl | ⟨h0, h⟩
    · contradiction
    · exact ⟨46, _, rfl, by decide, by decide, by decide⟩
    · cases n with
      | nil => exact absurd rfl h0
      | cons c t =>
        have hc := h c (by simp)
        exact ⟨c, _, rfl, stp_id hc, by rintro rfl; exact absurd hc (by decide), by rintro rfl; exact absurd hc (by decide)⟩
theorem imp_ok {S : RS} {b g n l t : List UInt8} (h : Vr S b (g ++ clauseL n l ++ t)) (hg : gapB .sp g = true) (hn : IsNm n) (hl : IsLit l) : imp S = (A0 (b ++ g ++ clauseL n l) t, [l]) := by
  unfold imp
  rcases hn with rfl | rfl | ⟨h0, hid⟩
  · obtain ⟨q, body, e, hq, hb⟩ := id hl
    have hs : stp q = true := by rcases hq with rfl | rfl <;> decide
    have hc : clauseL [] l = l := rfl
    rw [hc] at h ⊢
    have hp : pk true S = (P0 (b ++ g) q (body ++ q :: t), q) := pk_gap (by rw [e] at h; simpa using h) hg hs
    have hnm : name S = P0 (b ++ g) q (body ++ q :: t) := by
      unfold name
      rw [hp]
      have h1 : q ≠ 46 := by rcases hq with rfl | rfl <;> decide
      have h2 : isId q = false := by rcases hq with rfl | rfl <;> decide
      show (if q = 46 then _ else if isId q = true then _ else _) = _
      rw [if_neg h1, if_neg (by rw [h2]; simp)]
    rw [hnm]
    have hv : Vr (P0 (b ++ g) q (body ++ q :: t)) (b ++ g) ([] ++ l ++ t) := by
      have := Vr.p (b := b ++ g) (r := body ++ q :: t) (stp_parts hs).1
      rw [e]; simpa using this
    have := str_ok hv rfl hl
    rw [List.append_nil] at this
    exact this
  · have hc : clauseL [46] l = 46 :: 32 :: l := rfl
    rw [hc] at h ⊢
    have hp : pk true S = (P0 (b ++ g) 46 (32 :: l ++ t), 46) := pk_gap (by simpa using h) hg (by decide)
    have hnm : name S = A0 (b ++ g ++ [46]) (32 :: l ++ t) := by
      unfold name
      rw [hp]
      rfl
    rw [hnm]
    have := str_ok (S := A0 (b ++ g ++ [46]) (32 :: l ++ t)) (b := b ++ g ++ [46]) (g := [32]) (t := t) Vr.a (by decide) hl
    rw [this]
    simp
  · cases n with
    | nil => exact absurd rfl h0
    | cons c n =>
      have hcid := hid c (by simp)
      have hc : clauseL (c :: n) l = (c :: n) ++ 32 :: l := rfl
      rw [hc] at h ⊢
      have hp : pk true S = (P0 (b ++ g) c (n ++ 32 :: l ++ t), c) := pk_gap (by simpa using h) hg (stp_id hcid)
      have h46 : c ≠ 46 := by rintro rfl; exact absurd hcid (by decide)
      have hv : Vr (P0 (b ++ g) c (n ++ 32 :: l ++ t)) (b ++ g) ([] ++ (c :: n) ++ 32 :: (l ++ t)) := by
        have := Vr.p (b := b ++ g) (r := n ++ 32 :: l ++ t) (id_ne hcid)
        simpa using this
      have hi := ident_ok hv rfl hid (by decide) (by decide)
      have hnm : name S = P0 (b ++ g ++ (c :: n)) 32 (l ++ t) := by
        unfold name
        rw [hp]
        show (if c = 46 then _ else if isId c = true then ident (P0 (b ++ g) c (n ++ 32 :: l ++ t)) else _) = _
        rw [if_neg h46, if_pos hcid, hi, List.append_nil]
      rw [hnm]
      have hv2 : Vr (P0 (b ++ g ++ (c :: n)) 32 (l ++ t)) (b ++ g ++ (c :: n)) ([32] ++ l ++ t) := by
        have := Vr.p (b := b ++ g ++ (c :: n)) (r := l ++ t) (show (32 : UInt8) ≠ 0 by decide)
        simpa using this
      have := str_ok hv2 (by decide) hl
      rw [this]
      simp
end Go.Proofs.YtgplcbobomainaaDoor
