/-
  A slice of bytes that reads as a list; small words.
-/
import Derived.Test.YtgplcbobomainaaDoorRows
import Derived.Test.YtgplcbobomainaaDoorMem
import Derived.WalkSpells
import Derived.WalkLawsBesides
import Derived.WalkSmall
import Derived.Test.YtgplcbobomainaaDoorFi
import Derived.Laws.IdiomStrings
import Derived.Lib.SlBytesConst
import Derived.LoopTactic
import Derived.Deep.QuietTactic
import Derived.BigQuiet
namespace Go.Proofs.YtgplcbobomainaaDoor
open Go.RowKit
set_option linter.unusedVariables false
set_option linter.unusedSimpArgs false

theorem ret_bool {a b : Bool} (h : a = b) : Ending.returned (.bool a) = .returned (.bool b) := by rw [h]
theorem ret_int {k : IntKind} {a b : Int} (h : a = b) : Ending.returned (.int k a) = .returned (.int k b) := by rw [h]
theorem ret_string {a b : ByteArray} (h : a = b) : Ending.returned (.string a) = .returned (.string b) := by rw [h]
theorem bytes_eq {a b : ByteArray} (h : a.toList = b.toList) : a = b := by
  rw [Lib.toList_data, Lib.toList_data] at h
  exact WideShapes.bytes_inj h

def Drawn (w w' : World) : Prop := ∃ n, w' = w.drewN n
theorem Drawn.refl (w : World) : Drawn w w := ⟨0, rfl⟩
theorem Drawn.more {w w' : World} (h : Drawn w w') (n : Nat) : Drawn w (w'.drewN n) := by
  obtain ⟨m, rfl⟩ := h; exact ⟨m + n, by simp⟩
theorem Drawn.trans {w w' w'' : World} (h : Drawn w w') (h' : Drawn w' w'') : Drawn w w'' := by
  obtain ⟨m, rfl⟩ := h'; exact h.more m
theorem Drawn.below {w w' : World} (h : Drawn w w') : Below w.heap.size w w' := by
  obtain ⟨n, rfl⟩ := h; exact below_drewN (Below.refl _ _) n

/-- Bytes as cells. -/
def bv (l : List UInt8) : List Value := l.map fun b => Value.int .u8 (b.toNat : Int)
theorem bv_len (l : List UInt8) : (bv l).length = l.length := by unfold bv; simp
/-- The slice of bytes that begins at A reads as a list. -/
def Bts (w : World) (A : Option Addr) (l : List UInt8) : Prop := Reads w w.heap.size 1 A l.length (bv l)

section
variable {w w' : World} {A : Option Addr} {l : List UInt8}
theorem Bts.nil_ (w : World) (A : Option Addr) : Bts w A [] := ⟨by simp [bv], fun h => by simp at h⟩
theorem Bts.below (h : Bts w A l) (hb : Below w.heap.size w w') : Bts w' A l := (Reads.below h hb).more hb.size
theorem Bts.drewN (h : Bts w A l) (n : Nat) : Bts (w.drewN n) A l := h
theorem Bts.drawn (h : Bts w A l) (hd : Drawn w w') : Bts w' A l := by obtain ⟨n, rfl⟩ := hd; exact h
theorem Bts.at_ {k : Nat} (h : Bts w A l) (hk : k < l.length) : ∃ b off, A = some ⟨b, off, none⟩ ∧ b < w.heap.size ∧ ∀ i (hi : i < l.length), w.cell? ⟨b, off + i, none⟩ = some (.int .u8 (l[i].toNat : Int)) := by
  obtain ⟨ad, e, hb, hc⟩ := h.2 (by omega)
  have h0 := hc 0 _ (List.getElem?_eq_getElem (by rw [bv_len]; omega))
  obtain ⟨b, off, spot⟩ := ad
  have hspot : spot = none := by simpa [Addr.add] using World.cell?_spot h0
  subst hspot
  refine ⟨b, off, e, hb, fun i hi => ?_⟩
  have h1 := hc i _ (List.getElem?_eq_getElem (by rw [bv_len]; omega))
  rw [Go.WideShapes.add_plain] at h1
  rw [h1]
  simp [bv]
theorem Bts.mk_ {b off : Nat} (hb : b < w.heap.size) (hc : ∀ i (hi : i < l.length), w.cell? ⟨b, off + i, none⟩ = some (.int .u8 (l[i].toNat : Int))) : Bts w (some ⟨b, off, none⟩) l := by
  refine ⟨by rw [bv_len]; omega, fun _ => ⟨_, rfl, hb, fun j u hu => ?_⟩⟩
  have hj : j < l.length := by have := (List.getElem?_eq_some_iff.1 hu).1; rwa [bv_len] at this
  rw [Go.WideShapes.add_plain, hc j hj, ← hu]
  simp [bv, hj]
theorem Bts.cut (h : Bts w A l) {k cap : Nat} (hk : k ≤ l.length) (hc : l.length ≤ cap) : Bts w (if cap = k then A else A.map (·.add k)) (l.drop k) := by
  have := Reads.cut (k := k) (cap := cap) h hk hc
  unfold Bts
  rw [Nat.mul_one] at this
  have e : bv (l.drop k) = (bv l).drop k := by unfold bv; rw [List.map_drop]
  rw [e, List.length_drop]
  exact this
theorem Bts.takeN (h : Bts w A l) (k : Nat) : Bts w A (l.take k) := by
  rcases Nat.eq_zero_or_pos (l.take k).length with h0 | h0
  · rw [List.eq_nil_of_length_eq_zero h0]; exact Bts.nil_ _ _
  · have hl : (l.take k).length ≤ l.length := by simp; omega
    obtain ⟨b, off, rfl, hb, hc⟩ := h.at_ (k := 0) (by omega)
    exact Bts.mk_ hb fun i hi => by rw [hc i (by omega)]; simp
theorem Bts.conv {P : Program} {src dst e : TypeId} (h : Bts w A l) (hs : P.underlying src = some (.slice e)) (he : P.underlying e = some (.int .u8)) (hd : P.underlying dst = some .string) (c : Nat) :
    (convert src dst (.slice A l.length c)).run P w = .ok (.string ⟨l.toArray⟩) w := by
  cases l with
  | nil =>
    cases A with
    | none => exact run_convert_bytes_nil w src e hs he 0 c dst hd
    | some a => exact run_convert_bytes_back w src dst e a c [] hs he hd (fun j hj => by simp at hj)
  | cons x r =>
    obtain ⟨b, off, rfl, hb, hc⟩ := h.at_ (k := 0) (by simp)
    exact run_convert_bytes_back w src dst e _ c (x :: r) hs he hd (fun j hj => by rw [Go.WideShapes.add_plain]; exact hc j hj)
end

end Go.Proofs.YtgplcbobomainaaDoor
