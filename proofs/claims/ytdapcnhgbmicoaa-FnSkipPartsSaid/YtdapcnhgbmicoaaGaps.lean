/-
  The gaps of the reference, and what is left behind them: plain laws.
-/
import Derived.Test.YtdapcnhgbmicoaaSkip
namespace Go.Proofs.Ytdapcnhgbmicoaa
open Go.RowKit
set_option linter.unusedVariables false
set_option linter.unusedSimpArgs false

def gapsL : List ByteArray := [⟨#[32]⟩, ⟨#[9]⟩, ⟨#[32, 47, 42, 32, 97, 59, 32, 34, 98, 34, 32, 42, 47, 32]⟩, ⟨#[10]⟩, ⟨#[59, 32]⟩, ⟨#[32, 47, 47, 32, 99, 32, 39, 100, 39, 10]⟩, ⟨#[10, 10, 47, 42, 32, 101, 10, 102, 32, 42, 47, 10]⟩]
/-- The remainder of at least 0. -/
def md (g n : Int) : Int := g % n
theorem md_bd (g : Int) {n : Int} (h : 0 < n) : 0 ≤ md g n ∧ md g n < n := ⟨Int.emod_nonneg _ (by omega), Int.emod_lt_of_pos _ h⟩
theorem md_eq (g : Int) {n : Int} (h : 0 < n) : (g.tmod n + n) % n = md g n := by
  unfold md
  rw [Int.add_emod_right]
  rw [Int.tmod_def, Int.sub_emod, Int.mul_emod_right, Int.sub_zero, Int.emod_emod]

def gapAt (g : Int) : ByteArray := gapsL.getD (md g 7).toNat ByteArray.empty
def semi : ByteArray := ⟨#[59, 32]⟩
/-- What one number adds. -/
def gapT (g : Int) : List UInt8 := if gapAt g = semi then [] else (gapAt g).data.toList
def gtx (zs : List Int) : List UInt8 := zs.flatMap gapT

theorem skp_gap (g : Int) (r : List UInt8) : skp (gapT g ++ r) = skp r := by
  have hb := md_bd g (n := 7) (by omega)
  unfold gapT gapAt
  generalize md g 7 = m at *
  have hm : m = 0 ∨ m = 1 ∨ m = 2 ∨ m = 3 ∨ m = 4 ∨ m = 5 ∨ m = 6 := by omega
  rcases hm with rfl | rfl | rfl | rfl | rfl | rfl | rfl
  · rw [if_neg (by decide)]; exact skp_sp (by decide)
  · rw [if_neg (by decide)]; exact skp_sp (by decide)
  · rw [if_neg (by decide)]
    show skp (32 :: 47 :: 42 :: (32 :: 97 :: 59 :: 32 :: 34 :: 98 :: 34 :: 32 :: 42 :: 47 :: 32 :: r)) = _
    rw [skp_sp (by decide), skp_block]
    simp [blockR, fi]
    exact skp_sp (by decide)
  · rw [if_neg (by decide)]; exact skp_sp (by decide)
  · rw [if_pos (by decide)]; rfl
  · rw [if_neg (by decide)]
    show skp (32 :: 47 :: 47 :: (32 :: 99 :: 32 :: 39 :: 100 :: 39 :: 10 :: r)) = _
    rw [skp_sp (by decide), skp_line]
    simp [lineR, fi]
  · rw [if_neg (by decide)]
    show skp (10 :: 10 :: 47 :: 42 :: (32 :: 101 :: 10 :: 102 :: 32 :: 42 :: 47 :: 10 :: r)) = _
    rw [skp_sp (by decide), skp_sp (by decide), skp_block]
    simp [blockR, fi]
    exact skp_sp (by decide)
theorem skp_gtx (zs : List Int) (r : List UInt8) : skp (gtx zs ++ r) = skp r := by
  induction zs with
  | nil => rfl
  | cons g zs ih =>
    unfold gtx at ih ⊢
    rw [List.flatMap_cons, List.append_assoc, skp_gap, ih]
theorem gapT_len (g : Int) : (gapT g).length ≤ 14 := by
  have hb := md_bd g (n := 7) (by omega)
  unfold gapT gapAt
  generalize md g 7 = m at *
  have hm : m = 0 ∨ m = 1 ∨ m = 2 ∨ m = 3 ∨ m = 4 ∨ m = 5 ∨ m = 6 := by omega
  rcases hm with rfl | rfl | rfl | rfl | rfl | rfl | rfl <;> decide
theorem gtx_len (zs : List Int) : (gtx zs).length ≤ zs.length * 14 := by
  induction zs with
  | nil => simp [gtx]
  | cons g zs ih =>
    have := gapT_len g
    unfold gtx at ih ⊢
    rw [List.flatMap_cons, List.length_append, List.length_cons]
    omega
theorem gtx_snoc (zs : List Int) (k : Nat) (h : k < zs.length) : gtx (zs.take (k + 1)) = gtx (zs.take k) ++ gapT zs[k] := by
  unfold gtx
  rw [List.take_succ_eq_append_getElem h, List.flatMap_append]
  simp

end Go.Proofs.Ytdapcnhgbmicoaa
