/-
  Two bytes held against each other.
-/
import Derived.WalkKit
namespace Go.Proofs.YtgplcbobomainaaDoor
theorem byte_ne {b c : UInt8} (h : b ≠ c) : ((b.toNat : Int) == (c.toNat : Int)) = false := by
  simp; intro e; exact h (UInt8.toNat_inj.1 (by omega))
theorem byte_eq {b c : UInt8} (h : b = c) : ((b.toNat : Int) == (c.toNat : Int)) = true := by
  simp [h]

end Go.Proofs.YtgplcbobomainaaDoor
