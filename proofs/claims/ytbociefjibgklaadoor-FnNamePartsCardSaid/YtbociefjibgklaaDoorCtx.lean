/-
  contextOf.
-/
import Derived.Test.YtbociefjibgklaaDoorProg
import Derived.Test.YtbociefjibgklaaDoorInv
import Derived.Test.YtbociefjibgklaaDoorStrsB
import Derived.Test.YtbociefjibgklaaDoorOwn
import Derived.LoopTactic
namespace Go.Proofs.YtbociefjibgklaaDoor
open Go.RowKit
set_option linter.unusedVariables false
set_option linter.unusedSimpArgs false

/-- A setting. -/
structure Stg where
  os : ByteArray
  ar : ByteArray
  co : ByteArray
  cgo : Bool
  s1 : List ByteArray
  s2 : List ByteArray
  s3 : List ByteArray
  A1 : Option Addr
  A2 : Option Addr
  A3 : Option Addr
  c1 : Nat
  c2 : Nat
  c3 : Nat
def Stg.cells (S : Stg) : Array Value := #[.string S.os, .string S.ar, .bool S.cgo, .string S.co, .slice S.A1 S.s1.length S.c1, .slice S.A2 S.s2.length S.c2, .slice S.A3 S.s3.length S.c3]
def Stg.val (S : Stg) : Value := .agg S.cells
structure Stg.Ok (S : Stg) (w : World) : Prop where
  h1 : Strs w S.A1 S.s1
  h2 : Strs w S.A2 S.s2
  h3 : Strs w S.A3 S.s3
  l1 : S.s1.length ≤ 8589934592
  l2 : S.s2.length ≤ 8589934592
  l3 : S.s3.length ≤ 8589934592
theorem Stg.Ok.below {S : Stg} {w w' : World} (h : S.Ok w) (hb : Below w.heap.size w w') : S.Ok w' := ⟨h.h1.below hb, h.h2.below hb, h.h3.below hb, h.l1, h.l2, h.l3⟩

/-- The context lies in block q. -/
def CtxIn (S : Stg) (w : World) (x : Value) : Prop :=
  ∃ B1 B2 B3 d1 d2 d3, x = .agg #[.string S.ar, .string S.os, .bool S.cgo, .string S.co, .slice B1 S.s1.length d1, .slice B2 S.s2.length d2, .slice B3 S.s3.length d3] ∧ Strs w B1 S.s1 ∧ Strs w B2 S.s2 ∧ Strs w B3 S.s3
def CtxAt (S : Stg) (w : World) (q : Nat) : Prop :=
  q < w.heap.size ∧ ∃ B1 B2 B3 d1 d2 d3, w.heap[q]? = some (.cells #[.string S.ar, .string S.os, .bool S.cgo, .string S.co, .slice B1 S.s1.length d1, .slice B2 S.s2.length d2, .slice B3 S.s3.length d3] 42 (0, 0)) ∧ Strs w B1 S.s1 ∧ Strs w B2 S.s2 ∧ Strs w B3 S.s3
theorem CtxIn.below {S : Stg} {w w' : World} {x : Value} (h : CtxIn S w x) (hb : Below w.heap.size w w') : CtxIn S w' x := by
  obtain ⟨B1, B2, B3, d1, d2, d3, e, h1, h2, h3⟩ := h
  exact ⟨B1, B2, B3, d1, d2, d3, e, h1.below hb, h2.below hb, h3.below hb⟩
theorem CtxAt.below {S : Stg} {w w' : World} {q : Nat} (h : CtxAt S w q) (hb : Below w.heap.size w w') : CtxAt S w' q := by
  obtain ⟨hq, B1, B2, B3, d1, d2, d3, e, h1, h2, h3⟩ := h
  exact ⟨Nat.lt_of_lt_of_le hq hb.size, B1, B2, B3, d1, d2, d3, (hb.block q hq).trans e, h1.below hb, h2.below hb, h3.below hb⟩

/-- What operation k of contextOf leaves. -/
def Left (S : Stg) (H : Nat) (k : Nat) (v : Value) (w : World) : Prop :=
  match k with
  | 0 => v = .pointer (some ⟨H, 0, none⟩)
  | 1 => v = .string S.os
  | 2 => v = .pointer (some ⟨H, 1, none⟩)
  | 3 => v = .string S.ar
  | 4 => v = .pointer (some ⟨H, 2, none⟩)
  | 5 => v = .bool S.cgo
  | 6 => v = .pointer (some ⟨H, 3, none⟩)
  | 7 => v = .string S.co
  | 8 => ∃ g, v = .slice (some ⟨g, 0, none⟩) 0 0
  | 9 => v = .pointer (some ⟨H, 4, none⟩)
  | 10 => v = .slice S.A1 S.s1.length S.c1
  | 11 => ∃ B d, v = .slice B S.s1.length d ∧ Strs w B S.s1
  | 12 => ∃ g, v = .slice (some ⟨g, 0, none⟩) 0 0
  | 13 => v = .pointer (some ⟨H, 5, none⟩)
  | 14 => v = .slice S.A2 S.s2.length S.c2
  | 15 => ∃ B d, v = .slice B S.s2.length d ∧ Strs w B S.s2
  | 16 => ∃ g, v = .slice (some ⟨g, 0, none⟩) 0 0
  | 17 => v = .pointer (some ⟨H, 6, none⟩)
  | 18 => v = .slice S.A3 S.s3.length S.c3
  | 19 => ∃ B d, v = .slice B S.s3.length d ∧ Strs w B S.s3
  | 20 => CtxIn S w v
  | 21 => ∃ q, v = .pointer (some ⟨q, 0, none⟩) ∧ CtxAt S w q
  | 22 => ∃ q, v = .pointer (some ⟨q, 0, none⟩) ∧ CtxAt S w q
  | _ => True
theorem Left.below {S : Stg} {H k : Nat} {v : Value} {w w' : World} (h : Left S H k v w) (hb : Below w.heap.size w w') : Left S H k v w' := by
  unfold Left at *
  split at h <;> first
    | exact h
    | (obtain ⟨B, d, e, hs⟩ := h; exact ⟨B, d, e, hs.below hb⟩)
    | exact h.below hb
    | (obtain ⟨q, e, hs⟩ := h; exact ⟨q, e, hs.below hb⟩)

def slotOf (k : Nat) : Nat := if k = 22 then 2 else k + 3

structure CInv (S : Stg) (w0 : World) (D : Nat → Bool) (a : Act) (w : World) : Prop where
  size : a.tmps.size = 25
  defers : a.defers = []
  box : a.tmps[1]? = some (.pointer (some ⟨w0.heap.size, 0, none⟩))
  below : Below (w0.alloc (.cells S.cells 24)).heap.size (w0.alloc (.cells S.cells 24)) w
  left : ∀ k, k < 23 → D k = true → ∃ v, a.tmps[slotOf k]? = some v ∧ Left S w0.heap.size k v w

theorem CInv.put {S : Stg} {w0 w w' : World} {D : Nat → Bool} {a : Act} {i : Nat} {v : Value} (h : CInv S w0 D a w) (hi : i < 23) (hb : Below w.heap.size w w') (hv : Left S w0.heap.size i v w') :
    CInv S w0 (fun j => D j || decide (j = i)) (a.put (some (slotOf i)) v) w' := by
  have hs : slotOf i < 25 := by unfold slotOf; split <;> omega
  have h1 : slotOf i ≠ 1 := by unfold slotOf; split <;> omega
  refine ⟨by simp [Act.put, h.size], h.defers, ?_, h.below.trans (hb.mono h.below.size), fun k hk hD => ?_⟩
  · simp only [Act.put]
    rw [Array.getElem?_setIfInBounds_ne h1]
    exact h.box
  · by_cases hki : k = i
    · subst hki
      exact ⟨v, by simp [Act.put, h.size, hs], hv⟩
    · have hD' : D k = true := by simpa [hki] using hD
      obtain ⟨u, hu, hl⟩ := h.left k hk hD'
      have hne : slotOf i ≠ slotOf k := by unfold slotOf; split <;> split <;> omega
      refine ⟨u, ?_, hl.below hb⟩
      simp only [Act.put]
      rw [Array.getElem?_setIfInBounds_ne hne]
      exact hu

theorem CInv.cell {S : Stg} {w0 w : World} {D : Nat → Bool} {a : Act} (h : CInv S w0 D a w) (k : Nat) (hk : k < 7) : w.cell? ⟨w0.heap.size, k, none⟩ = S.cells[k]? := by
  rw [h.below.cell (p := ⟨w0.heap.size, k, none⟩) (by simp)]
  have e : (w0.alloc (.cells S.cells 24)).heap[w0.heap.size]? = some (.cells S.cells 24 (0, 0)) := heap_alloc_new w0 _
  exact cell_of_row _ _ k _ 24 (0, 0) e

theorem str_ext {w' : World} {B : Option Addr} {ss : List ByteArray} (hm : ∀ s ∈ ss, s.size ≤ maxLen)
    (h : 0 < ss.length → ∃ b, B = some ⟨b, 0, none⟩ ∧ b < w'.heap.size ∧ ∀ j u, (ss.map Value.string)[j]? = some u → w'.cell? ⟨b, j, none⟩ = some u) : Strs w' B ss :=
  ⟨hm, fun hp => by
    obtain ⟨b, e, hb, hc⟩ := h hp
    exact ⟨b, 0, e, hb, fun i hi => by rw [Nat.zero_add]; exact hc i _ (by simp [hi])⟩⟩

theorem strs_cells {w : World} {A : Option Addr} {ss : List ByteArray} (h : Strs w A ss) : 0 < ss.length → ∃ ad, A = some ad ∧ ∀ j u, (ss.map Value.string)[j]? = some u → w.cell? (ad.add j) = some u := by
  intro hp
  obtain ⟨b, off, rfl, hb, hc⟩ := h.2 hp
  refine ⟨_, rfl, fun j u hu => ?_⟩
  have hj : j < ss.length := by have := (List.getElem?_eq_some_iff.1 hu).1; simpa using this
  rw [Go.WideShapes.add_plain, hc j hj]
  simpa [hj] using hu

def CtxPost (S : Stg) (w : World) (e : Ending) (w' : World) : Prop := ∃ q, e = .returned (.pointer (some ⟨q, 0, none⟩)) ∧ CtxAt S w' q ∧ Below w.heap.size w w'

set_option maxHeartbeats 4000000 in
theorem contextOf_any (S : Stg) (w : World) (hS : S.Ok w) :
    Calls Tryd.prog 21 #[S.val] w (CtxPost S w) := by
  unfold Stg.val Stg.cells
  go_enter Tryd.func21, Tryd.ntmps21
  go_wp2
  refine wp_region_inv (CInv S w) (by kernel_rfl) ?_ ?_ ?_ ?_
  · exact ordOk.out (by kernel_rfl)
  · intro D a w' i o ho hD hpre hI
    have hi : i < 23 := (Array.getElem?_eq_some_iff.1 ho).1
    have hc0 := hI.cell 0 (by omega)
    have hc1 := hI.cell 1 (by omega)
    have hc2 := hI.cell 2 (by omega)
    have hc3 := hI.cell 3 (by omega)
    have hc4 := hI.cell 4 (by omega)
    have hc5 := hI.cell 5 (by omega)
    have hc6 := hI.cell 6 (by omega)
    have hbox := hI.box
    obtain rfl | rfl | rfl | rfl | rfl | rfl | rfl | rfl | rfl | rfl | rfl | rfl | rfl | rfl | rfl | rfl | rfl | rfl | rfl | rfl | rfl | rfl | rfl : i = 0 ∨ i = 1 ∨ i = 2 ∨ i = 3 ∨ i = 4 ∨ i = 5 ∨ i = 6 ∨ i = 7 ∨ i = 8 ∨ i = 9 ∨ i = 10 ∨ i = 11 ∨ i = 12 ∨ i = 13 ∨ i = 14 ∨ i = 15 ∨ i = 16 ∨ i = 17 ∨ i = 18 ∨ i = 19 ∨ i = 20 ∨ i = 21 ∨ i = 22 := by omega
    all_goals obtain rfl : _ = o := Option.some.inj ho
    · refine step_of (v := .pointer (some ⟨w.heap.size, 0, none⟩)) (w' := w') rfl rfl (fun ρ hρ => ?_) (hI.put hi (Below.refl _ _) rfl)
      have e1 := hρ 1 _ hbox
      clear hρ hpre hI
      go_simp
    · obtain ⟨u, hu, rfl⟩ := hI.left 0 (by omega) (hpre ⟨0, .data⟩ (by simp) rfl)
      refine step_of (v := .string S.os) (w' := w') rfl rfl (fun ρ hρ => ?_) (hI.put hi (Below.refl _ _) rfl)
      have e1 := hρ 3 _ hu
      have e2 : w'.cell? ⟨w.heap.size, 0, none⟩ = some (.string S.os) := hc0
      clear hρ hpre hI hc0 hc1 hc2 hc3 hc4 hc5 hc6
      go_simp
    · refine step_of (v := .pointer (some ⟨w.heap.size, 1, none⟩)) (w' := w') rfl rfl (fun ρ hρ => ?_) (hI.put hi (Below.refl _ _) rfl)
      have e1 := hρ 1 _ hbox
      clear hρ hpre hI
      go_simp
    · obtain ⟨u, hu, rfl⟩ := hI.left 2 (by omega) (hpre ⟨2, .data⟩ (by simp) rfl)
      refine step_of (v := .string S.ar) (w' := w') rfl rfl (fun ρ hρ => ?_) (hI.put hi (Below.refl _ _) rfl)
      have e1 := hρ 5 _ hu
      have e2 : w'.cell? ⟨w.heap.size, 1, none⟩ = some (.string S.ar) := hc1
      clear hρ hpre hI hc0 hc1 hc2 hc3 hc4 hc5 hc6
      go_simp
    · refine step_of (v := .pointer (some ⟨w.heap.size, 2, none⟩)) (w' := w') rfl rfl (fun ρ hρ => ?_) (hI.put hi (Below.refl _ _) rfl)
      have e1 := hρ 1 _ hbox
      clear hρ hpre hI
      go_simp
    · obtain ⟨u, hu, rfl⟩ := hI.left 4 (by omega) (hpre ⟨4, .data⟩ (by simp) rfl)
      refine step_of (v := .bool S.cgo) (w' := w') rfl rfl (fun ρ hρ => ?_) (hI.put hi (Below.refl _ _) rfl)
      have e1 := hρ 7 _ hu
      have e2 : w'.cell? ⟨w.heap.size, 2, none⟩ = some (.bool S.cgo) := hc2
      clear hρ hpre hI hc0 hc1 hc2 hc3 hc4 hc5 hc6
      go_simp
    · refine step_of (v := .pointer (some ⟨w.heap.size, 3, none⟩)) (w' := w') rfl rfl (fun ρ hρ => ?_) (hI.put hi (Below.refl _ _) rfl)
      have e1 := hρ 1 _ hbox
      clear hρ hpre hI
      go_simp
    · obtain ⟨u, hu, rfl⟩ := hI.left 6 (by omega) (hpre ⟨6, .data⟩ (by simp) rfl)
      refine step_of (v := .string S.co) (w' := w') rfl rfl (fun ρ hρ => ?_) (hI.put hi (Below.refl _ _) rfl)
      have e1 := hρ 9 _ hu
      have e2 : w'.cell? ⟨w.heap.size, 3, none⟩ = some (.string S.co) := hc3
      clear hρ hpre hI hc0 hc1 hc2 hc3 hc4 hc5 hc6
      go_simp
    · refine step_of (v := .slice (some ⟨w'.heap.size, 0, none⟩) 0 0) (w' := w'.alloc (.cells #[] 9)) rfl rfl (fun ρ hρ => ?_) (hI.put hi ((Below.refl _ _).alloc (Nat.le_refl _) _) ⟨_, rfl⟩)
      clear hρ hpre hI
      go_simp
    · refine step_of (v := .pointer (some ⟨w.heap.size, 4, none⟩)) (w' := w') rfl rfl (fun ρ hρ => ?_) (hI.put hi (Below.refl _ _) rfl)
      have e1 := hρ 1 _ hbox
      clear hρ hpre hI
      go_simp
    · obtain ⟨u, hu, rfl⟩ := hI.left 9 (by omega) (hpre ⟨9, .data⟩ (by simp) rfl)
      refine step_of (v := .slice S.A1 S.s1.length S.c1) (w' := w') rfl rfl (fun ρ hρ => ?_) (hI.put hi (Below.refl _ _) rfl)
      have e1 := hρ 12 _ hu
      have e2 : w'.cell? ⟨w.heap.size, 4, none⟩ = some (.slice S.A1 S.s1.length S.c1) := hc4
      clear hρ hpre hI hc0 hc1 hc2 hc3 hc4 hc5 hc6
      go_simp
    · obtain ⟨u, hu, g, rfl⟩ := hI.left 8 (by omega) (hpre ⟨8, .data⟩ (by simp) rfl)
      obtain ⟨u2, hu2, rfl⟩ := hI.left 10 (by omega) (hpre ⟨10, .data⟩ (by simp) rfl)
      have hs := ((hS.h1.below ((Below.refl _ _).alloc (Nat.le_refl _) (.cells S.cells 24))).below hI.below)
      obtain ⟨i0, hi0, hz0, hz1, hz2⟩ := info_parts str_info
      obtain ⟨B, d, w2, hrun, hb, hB⟩ := append_fresh (P := Tryd.prog) w' 22 22 9 i0 (.string ByteArray.empty) 16 Tryd.underlying22 hi0 hz0 hz1 hz2 ⟨g, 0, none⟩ S.A1 S.s1.length S.c1 (S.s1.map Value.string) (by simp) (strs_cells hs) (by have := hS.l1; unfold maxLen; omega) (by have := hS.l1; omega)
      refine step_of (v := .slice B S.s1.length d) (w' := w2) rfl rfl (fun ρ hρ => ?_) (hI.put hi hb ⟨B, d, rfl, str_ext hS.h1.1 hB⟩)
      exact run_append_op (.tmp 11) (.tmp 13) 22 rfl (hρ 11 _ hu) (hρ 13 _ hu2) hrun
    · refine step_of (v := .slice (some ⟨w'.heap.size, 0, none⟩) 0 0) (w' := w'.alloc (.cells #[] 9)) rfl rfl (fun ρ hρ => ?_) (hI.put hi ((Below.refl _ _).alloc (Nat.le_refl _) _) ⟨_, rfl⟩)
      clear hρ hpre hI
      go_simp
    · refine step_of (v := .pointer (some ⟨w.heap.size, 5, none⟩)) (w' := w') rfl rfl (fun ρ hρ => ?_) (hI.put hi (Below.refl _ _) rfl)
      have e1 := hρ 1 _ hbox
      clear hρ hpre hI
      go_simp
    · obtain ⟨u, hu, rfl⟩ := hI.left 13 (by omega) (hpre ⟨13, .data⟩ (by simp) rfl)
      refine step_of (v := .slice S.A2 S.s2.length S.c2) (w' := w') rfl rfl (fun ρ hρ => ?_) (hI.put hi (Below.refl _ _) rfl)
      have e1 := hρ 16 _ hu
      have e2 : w'.cell? ⟨w.heap.size, 5, none⟩ = some (.slice S.A2 S.s2.length S.c2) := hc5
      clear hρ hpre hI hc0 hc1 hc2 hc3 hc4 hc5 hc6
      go_simp
    · obtain ⟨u, hu, g, rfl⟩ := hI.left 12 (by omega) (hpre ⟨12, .data⟩ (by simp) rfl)
      obtain ⟨u2, hu2, rfl⟩ := hI.left 14 (by omega) (hpre ⟨14, .data⟩ (by simp) rfl)
      have hs := ((hS.h2.below ((Below.refl _ _).alloc (Nat.le_refl _) (.cells S.cells 24))).below hI.below)
      obtain ⟨i0, hi0, hz0, hz1, hz2⟩ := info_parts str_info
      obtain ⟨B, d, w2, hrun, hb, hB⟩ := append_fresh (P := Tryd.prog) w' 22 22 9 i0 (.string ByteArray.empty) 16 Tryd.underlying22 hi0 hz0 hz1 hz2 ⟨g, 0, none⟩ S.A2 S.s2.length S.c2 (S.s2.map Value.string) (by simp) (strs_cells hs) (by have := hS.l2; unfold maxLen; omega) (by have := hS.l2; omega)
      refine step_of (v := .slice B S.s2.length d) (w' := w2) rfl rfl (fun ρ hρ => ?_) (hI.put hi hb ⟨B, d, rfl, str_ext hS.h2.1 hB⟩)
      exact run_append_op (.tmp 15) (.tmp 17) 22 rfl (hρ 15 _ hu) (hρ 17 _ hu2) hrun
    · refine step_of (v := .slice (some ⟨w'.heap.size, 0, none⟩) 0 0) (w' := w'.alloc (.cells #[] 9)) rfl rfl (fun ρ hρ => ?_) (hI.put hi ((Below.refl _ _).alloc (Nat.le_refl _) _) ⟨_, rfl⟩)
      clear hρ hpre hI
      go_simp
    · refine step_of (v := .pointer (some ⟨w.heap.size, 6, none⟩)) (w' := w') rfl rfl (fun ρ hρ => ?_) (hI.put hi (Below.refl _ _) rfl)
      have e1 := hρ 1 _ hbox
      clear hρ hpre hI
      go_simp
    · obtain ⟨u, hu, rfl⟩ := hI.left 17 (by omega) (hpre ⟨17, .data⟩ (by simp) rfl)
      refine step_of (v := .slice S.A3 S.s3.length S.c3) (w' := w') rfl rfl (fun ρ hρ => ?_) (hI.put hi (Below.refl _ _) rfl)
      have e1 := hρ 20 _ hu
      have e2 : w'.cell? ⟨w.heap.size, 6, none⟩ = some (.slice S.A3 S.s3.length S.c3) := hc6
      clear hρ hpre hI hc0 hc1 hc2 hc3 hc4 hc5 hc6
      go_simp
    · obtain ⟨u, hu, g, rfl⟩ := hI.left 16 (by omega) (hpre ⟨16, .data⟩ (by simp) rfl)
      obtain ⟨u2, hu2, rfl⟩ := hI.left 18 (by omega) (hpre ⟨18, .data⟩ (by simp) rfl)
      have hs := ((hS.h3.below ((Below.refl _ _).alloc (Nat.le_refl _) (.cells S.cells 24))).below hI.below)
      obtain ⟨i0, hi0, hz0, hz1, hz2⟩ := info_parts str_info
      obtain ⟨B, d, w2, hrun, hb, hB⟩ := append_fresh (P := Tryd.prog) w' 22 22 9 i0 (.string ByteArray.empty) 16 Tryd.underlying22 hi0 hz0 hz1 hz2 ⟨g, 0, none⟩ S.A3 S.s3.length S.c3 (S.s3.map Value.string) (by simp) (strs_cells hs) (by have := hS.l3; unfold maxLen; omega) (by have := hS.l3; omega)
      refine step_of (v := .slice B S.s3.length d) (w' := w2) rfl rfl (fun ρ hρ => ?_) (hI.put hi hb ⟨B, d, rfl, str_ext hS.h3.1 hB⟩)
      exact run_append_op (.tmp 19) (.tmp 21) 22 rfl (hρ 19 _ hu) (hρ 21 _ hu2) hrun
    · obtain ⟨u1, hu1, rfl⟩ := hI.left 1 (by omega) (hpre ⟨1, .data⟩ (by simp) rfl)
      obtain ⟨u3, hu3, rfl⟩ := hI.left 3 (by omega) (hpre ⟨3, .data⟩ (by simp) rfl)
      obtain ⟨u5, hu5, rfl⟩ := hI.left 5 (by omega) (hpre ⟨5, .data⟩ (by simp) rfl)
      obtain ⟨u7, hu7, rfl⟩ := hI.left 7 (by omega) (hpre ⟨7, .data⟩ (by simp) rfl)
      obtain ⟨u11, hu11, B1, d1, rfl, hB1⟩ := hI.left 11 (by omega) (hpre ⟨11, .data⟩ (by simp) rfl)
      obtain ⟨u15, hu15, B2, d2, rfl, hB2⟩ := hI.left 15 (by omega) (hpre ⟨15, .data⟩ (by simp) rfl)
      obtain ⟨u19, hu19, B3, d3, rfl, hB3⟩ := hI.left 19 (by omega) (hpre ⟨19, .data⟩ (by simp) rfl)
      refine step_of (v := .agg #[.string S.ar, .string S.os, .bool S.cgo, .string S.co, .slice B1 S.s1.length d1, .slice B2 S.s2.length d2, .slice B3 S.s3.length d3]) (w' := w') rfl rfl (fun ρ hρ => ?_) (hI.put hi (Below.refl _ _) ⟨B1, B2, B3, d1, d2, d3, rfl, hB1, hB2, hB3⟩)
      have e1 := hρ 4 _ hu1
      have e2 := hρ 6 _ hu3
      have e3 := hρ 8 _ hu5
      have e4 := hρ 10 _ hu7
      have e5 := hρ 14 _ hu11
      have e6 := hρ 18 _ hu15
      have e7 := hρ 22 _ hu19
      clear hρ hpre hI
      go_simp
    · obtain ⟨u, hu, B1, B2, B3, d1, d2, d3, rfl, hB1, hB2, hB3⟩ := hI.left 20 (by omega) (hpre ⟨20, .data⟩ (by simp) rfl)
      have hb := (Below.refl w'.heap.size w').alloc (Nat.le_refl _) (.cells #[.string S.ar, .string S.os, .bool S.cgo, .string S.co, .slice B1 S.s1.length d1, .slice B2 S.s2.length d2, .slice B3 S.s3.length d3] 42)
      refine step_of (v := .pointer (some ⟨w'.heap.size, 0, none⟩)) (w' := w'.alloc (.cells #[.string S.ar, .string S.os, .bool S.cgo, .string S.co, .slice B1 S.s1.length d1, .slice B2 S.s2.length d2, .slice B3 S.s3.length d3] 42)) rfl rfl (fun ρ hρ => ?_) (hI.put hi hb ⟨_, rfl, by simp, B1, B2, B3, d1, d2, d3, heap_alloc_new w' _, hB1.below hb, hB2.below hb, hB3.below hb⟩)
      have e1 := hρ 23 _ hu
      clear hρ hpre hI
      go_simp
    · obtain ⟨u, hu, q, rfl, hq⟩ := hI.left 21 (by omega) (hpre ⟨21, .data⟩ (by simp) rfl)
      refine step_of (v := .pointer (some ⟨q, 0, none⟩)) (w' := w') rfl rfl (fun ρ hρ => ?_) (hI.put hi (Below.refl _ _) ⟨q, rfl, hq⟩)
      have e1 := hρ 24 _ hu
      clear hρ hpre hI
      go_simp
  · intro D a w' hD hI
    obtain ⟨v, hv, q, rfl, hq⟩ := hI.left 22 (by omega) (hD 22 (by decide))
    rename_i K hK
    refine hK _ _ ?_
    have hb : Below w.heap.size w w' := ((Below.refl w.heap.size w).alloc (Nat.le_refl _) (.cells S.cells 24)).trans (hI.below.mono (by simp))
    obtain ⟨tm, df⟩ := a
    obtain rfl : df = [] := hI.defers
    have hv2 : tm[2]? = some (.pointer (some ⟨q, 0, none⟩)) := hv
    refine wp_ret ?_
    show bodyPost Tryd.prog Tryd.f21 (CtxPost S w) .ret ⟨tm, []⟩ w'
    exact bodyPost_ret (v := .pointer (some ⟨q, 0, none⟩)) (by simp [results, Tryd.results21, go_sem, hv2]) rfl ⟨q, rfl, hq, hb⟩
  · refine ⟨rfl, rfl, rfl, ?_, fun k _ h => by cases h⟩
    exact (Below.refl _ _).drew

end Go.Proofs.YtbociefjibgklaaDoor
