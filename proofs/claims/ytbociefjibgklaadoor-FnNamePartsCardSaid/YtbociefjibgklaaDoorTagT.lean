/-
  TagMet of the thin package; works.
-/
import Derived.Test.YtbociefjibgklaaDoorTagN
namespace Go.Proofs.YtbociefjibgklaaDoor
open Go.RowKit
set_option linter.unusedVariables false
set_option linter.unusedSimpArgs false

/-- The system's maps that the package reads. -/
def UnixIs (w : World) : Prop := MapIs w 0 unixKeys
theorem UnixIs.below {w w' : World} (h : UnixIs w) (hb : Below w.heap.size w w') : UnixIs w' := MapIs.below h hb

theorem zzMatchTag_any (unix : List (List UInt8)) (S : Stg) (t : ByteArray) (q : Nat) (w : World) (hq : CtxAt S w q) (hm : MapIs w 0 unix)
    (ho : S.os.size ≤ maxLen) (l1 : S.s1.length ≤ maxLen) (l2 : S.s2.length ≤ maxLen) (l3 : S.s3.length ≤ maxLen) (hb : (t.toList == [98, 111, 114, 105, 110, 103, 99, 114, 121, 112, 116, 111]) = false) :
    Calls Tryd.prog 22 #[.pointer (some ⟨q, 0, none⟩), .string t] w fun e w' => e = .returned (.bool (met unix S t)) ∧ Drawn w w' := by
  have HB := Lib.hid hb; clear hb
  go_enter Tryd.func22, Tryd.ntmps22
  go_wp2_with fail
  refine (matchTag_any unix S t q _ hq hm ho l1 l2 l3 HB.out).mono ?_; rintro e w' ⟨rfl, hd⟩
  go_wp2_with fail
  go_ret
  exact ⟨rfl, hd⟩

theorem tagMet_any (S : Stg) (t : ByteArray) (w : World) (hS : S.Ok w) (hm : UnixIs w) (ho : S.os.size ≤ maxLen) (hb : (t.toList == [98, 111, 114, 105, 110, 103, 99, 114, 121, 112, 116, 111]) = false) :
    Calls Tryd.prog 10 #[S.val, .string t] w (MetPost S t w) := by
  have HB := Lib.hid hb; clear hb
  have B1 := (Below.refl w.heap.size w).alloc (Nat.le_refl _) (.cells S.cells 24)
  have hS1 := hS.below B1
  have hm1 := hm.below B1
  have l1 : S.s1.length ≤ maxLen := by have := hS.l1; unfold maxLen; omega
  have l2 : S.s2.length ≤ maxLen := by have := hS.l2; unfold maxLen; omega
  have l3 : S.s3.length ≤ maxLen := by have := hS.l3; unfold maxLen; omega
  unfold Stg.val Stg.cells
  go_enter Tryd.func10, Tryd.ntmps10
  go_wp2_with fail
  refine (contextOf_any S _ hS1).mono ?_; rintro e w2 ⟨q, rfl, hq, hb2⟩
  have hm2 := hm1.below hb2
  have B2 : Below w.heap.size w w2 := B1.trans (hb2.mono (by simp))
  clear hm hm1 hS hS1 B1 hb2
  go_wp2_with fail
  refine (zzMatchTag_any unixKeys S t q _ hq hm2 ho l1 l2 l3 HB.out).mono ?_; rintro e w3 ⟨rfl, hd⟩
  have B3 : Below w.heap.size w w3 := B2.trans (hd.below.mono B2.size)
  clear hd
  go_wp2_with fail
  go_ret
  exact ⟨rfl, B3⟩

/-- The setting that works takes. -/
def linuxS : Stg := { os := ⟨#[108, 105, 110, 117, 120]⟩, ar := ⟨#[]⟩, co := ⟨#[]⟩, cgo := false, s1 := [], s2 := [], s3 := [], A1 := none, A2 := none, A3 := none, c1 := 0, c2 := 0, c3 := 0 }
theorem linux_ok (w : World) : linuxS.Ok w := by
  have h : Strs w none [] := ⟨(fun s hs => nomatch hs), (fun h => absurd h (by simp))⟩
  exact ⟨h, h, h, by decide, by decide, by decide⟩
theorem works_any (w : World) (hm : UnixIs w) :
    Calls Tryd.prog 12 #[] w fun e w' => e = .returned (.bool true) ∧ Below w.heap.size w w' := by
  go_enter Tryd.func12, Tryd.ntmps12
  go_wp2_with fail
  refine (tagMet_any linuxS ⟨#[108, 105, 110, 117, 120]⟩ w (linux_ok w) hm (by decide) (by decide +kernel)).mono ?_; rintro e w2 ⟨rfl, hb⟩
  have hmet : met unixKeys linuxS ⟨#[108, 105, 110, 117, 120]⟩ = true := by decide +kernel
  rw [hmet]
  clear hmet
  go_wp2_with fail
  go_ret
  exact ⟨rfl, hb⟩

end Go.Proofs.YtbociefjibgklaaDoor
