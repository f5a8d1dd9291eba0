/-
  ReadImports of package goimports: up to where the reader stops.
-/
import Derived.Test.YtgplcbobomainaaDoorRdZ
namespace Go.Proofs.YtgplcbobomainaaDoor.GI
open Go.RowKit
set_option linter.unusedVariables false
set_option linter.unusedSimpArgs false

def bz (b : List UInt8) : ByteArray := ⟨b.toArray⟩
/-- What ReadImports leaves. -/
def ImOut (E : EB) (w0 : World) (p l : Nat) (R : Option (List UInt8 × List (List UInt8))) (e : Ending) (w : World) : Prop :=
  ∃ v er S ls, e = .returned (.tuple #[v, er]) ∧ RdL E w0 p l S ls w ∧ ((∃ b L A cap, R = some (b, L) ∧ er = .nilIface ∧ ls = L.map bz ∧ v = .slice A b.length cap ∧ Bts w A b) ∨ (∃ x, R = none ∧ er = .iface 98 (.pointer (some x))))
/-- The loop over the declarations. -/
structure ImInv (E : EB) (w0 : World) (p l : Nat) (S : RS) (ls : List ByteArray) (w : World) : Prop where
  rd : RdL E w0 p l S ls w
  ne : NE S
  good : Good S
  len : ls.length + S.rest.length ≤ 4294967296
def ImsRel (E : EB) (w0 : World) (p l : Nat) (R : RS × List ByteArray) (k : Nat) (w : World) : Prop :=
  ∃ S ls, ImInv E w0 p l S ls w ∧ ((ims S).1, ls ++ (ims S).2.map bz) = R ∧ S.m2 ≤ k
def GrpRel (E : EB) (w0 : World) (p l : Nat) (R : RS × List ByteArray) (k : Nat) (w : World) : Prop :=
  ∃ S ls, ImInv E w0 p l S ls w ∧ ((grp S).1, ls ++ (grp S).2.map bz) = R ∧ S.m2 ≤ k
def WhRel (E : EB) (w0 : World) (p l : Nat) (R : RS) (ls : List ByteArray) (k : Nat) (w : World) : Prop :=
  ∃ S, RdL E w0 p l S ls w ∧ whole S = R ∧ S.mu ≤ k
theorem Rd.bufAny {O : Nat → Option Obj} {E : EB} {w0 : World} {p : Nat} {S : RS} {w : World} (h : Rd O E w0 p S w) : ∃ A cap, w.cell? ⟨p, 1, none⟩ = some (.slice A S.buf.length cap) ∧ Bts w A S.buf := by
  by_cases hb : S.buf = []
  · obtain ⟨K, q, B, s, d, V, h⟩ := h
    have hc := h.cells.2.1
    have ho := h.own
    rw [hb] at ho ⊢
    rcases ho.2 with ⟨rfl, h0⟩ | ⟨g, cap, cur, rfl, _⟩
    · exact ⟨none, 0, hc, Bts.nil_ _ _⟩
    · exact ⟨_, cap, hc, Bts.nil_ _ _⟩
  · obtain ⟨g, cap, c1, _, _, _, hbt⟩ := h.bufAt hb
    exact ⟨_, cap, c1, hbt⟩
theorem RdL.bufAny {E : EB} {w0 : World} {p l : Nat} {S : RS} {ls : List ByteArray} {w : World} (h : RdL E w0 p l S ls w) : ∃ A cap, w.cell? ⟨p, 1, none⟩ = some (.slice A S.buf.length cap) ∧ Bts w A S.buf := by
  obtain ⟨O, LV, h, _⟩ := h
  exact h.bufAny
theorem RdL.errC {E : EB} {w0 : World} {p l : Nat} {S : RS} {ls : List ByteArray} {w : World} (h : RdL E w0 p l S ls w) : w.cell? ⟨p, 3, none⟩ = some (errOf E S.err) ∧ w.frozen? ⟨p, 3, none⟩ = false ∧ E.Ok 1 0 w := by
  obtain ⟨O, LV, ⟨K, q, B, s, d, V, h⟩, _⟩ := h
  exact ⟨h.cells.2.2.2.1, h.thaw.2.2.1, h.errsAt⟩
theorem RdL.clear {E : EB} {w0 : World} {p l : Nat} {S : RS} {ls : List ByteArray} {w : World} (h : RdL E w0 p l S ls w) : RdL E w0 p l { S with err := .no } ls (w.setCell ⟨p, 3, none⟩ .nilIface) := by
  obtain ⟨O, LV, h, hl⟩ := h
  have h2 : Rd O E w0 p { S with err := .no } (w.setCell ⟨p, 3, none⟩ .nilIface) := by
    obtain ⟨K, q, B, s, d, V, h⟩ := h
    exact ⟨K, q, B, s, d, V, h.put 3 _ rfl rfl rfl⟩
  exact ⟨O, LV, h2, hl.step h h2⟩
theorem bz_eq (L : List (List UInt8)) : L.map (fun b => (⟨b.toArray⟩ : ByteArray)) = L.map bz := rfl
theorem ImInv.pk_ {E : EB} {w0 : World} {p l : Nat} {S : RS} {ls : List ByteArray} {w w' : World} (h : ImInv E w0 p l S ls w) (he : S.err = .no) (hr : RdL E w0 p l (pk true S).1 ls w') : ImInv E w0 p l (pk true S).1 ls w' :=
  ⟨hr, h.ne.step he (pk_nb true S) (by omega), pk_nz h.good, by have := (pk_le true S).rest; have := h.len; omega⟩
end Go.Proofs.YtgplcbobomainaaDoor.GI
