/-
  The thin package: ReadImports, ReadComments, CommentsOf.
-/
import Derived.Test.YtgplcbobomainaaDoorReF
import Derived.Test.YtgplcbobomainaaDoorLaB
namespace Go.Proofs.YtgplcbobomainaaDoor
open Go.RowKit
set_option linter.unusedVariables false
set_option linter.unusedSimpArgs false

/-- What ReadImports of the thin package leaves. -/
def RImPost (w : World) (R : Option (List UInt8 × List (List UInt8))) (e : Ending) (w' : World) : Prop :=
  Below w.heap.size w w' ∧ ((∃ b L A cap LV, R = some (b, L) ∧ e = .returned (.tuple #[.slice A b.length cap, LV, .bool true]) ∧ Bts w' A b ∧ w'.ownsRow w.heap.size 9 1 LV L.length (sv (L.map GI.bz))) ∨
    (R = none ∧ e = .returned (.tuple #[.slice none 0 0, .slice none 0 0, .bool false])))
/-- What ReadComments and CommentsOf leave. -/
def RCmPost (w : World) (R : Option (List UInt8)) (e : Ending) (w' : World) : Prop :=
  Below w.heap.size w w' ∧ ((∃ b A cap, R = some b ∧ e = .returned (.tuple #[.slice A b.length cap, .bool true]) ∧ Bts w' A b) ∨ (R = none ∧ e = .returned (.tuple #[.slice none 0 0, .bool false])))

set_option maxRecDepth 100000 in
set_option maxHeartbeats 1000000 in
theorem implReadComments_any {E : EB} {A : Option Addr} {c : Nat} {data : List UInt8} {w : World} (most : Int) (hm : IntKind.i64.wrap most = most) (hbt : Bts w A data) (hl : data.length ≤ 4294967296)
    (he : E.Ok 1 0 w) :
    Calls Tryd.prog 22 #[.slice A data.length c, .int .i64 most] w (RCmPost w (readCm data)) := by
  have HL := Lib.hid hl
  go_enter Tryd.func22, Tryd.ntmps22
  go_wp2_with fail
  refine (reading_any most hm hbt hl).mono ?_; rintro e w1 ⟨s, d, rfl, hs, hds, hbs, hbd, hb⟩
  clear hbt hl
  go_wp2_with fail
  refine (GI.readComments_any (K := .own) hs hds hbs hbd hb he HL.out).mono ?_; rintro e w2 ⟨v, er, rfl, hb2, ⟨b, A2, cap, hR, rfl, rfl, hbt2⟩ | ⟨x, hR, rfl⟩⟩
  · have HR := Lib.hid hR
    have HB := Lib.hid hb2
    have hbl : b.length ≤ 4294967296 := Nat.le_trans (readCm_short hR) HL.out
    have ho := own_empty w2
    have hbt3 : Bts (w2.alloc (.cells #[] 5)) A2 b := hbt2.below ((Below.refl _ _).alloc (Nat.le_refl _) _)
    clear hs hR hb2 hbt2 hb
    go_wp2_with (at_builtin; refine wpList_fresh rfl (.tmp 18) (.tmp 19) rfl w2.heap.size w2.heap.size cap A2 b rfl rfl ho (Nat.le_refl _) (by simp) hbt3 hbl ?_; intro g cap3 w3 hf)
    go_ret2
    exact ⟨HB.out.trans ((((Below.refl _ _).alloc (Nat.le_refl _) _).trans hf.below).mono HB.out.size), .inl ⟨b, _, cap3, HR.out, rfl, hf.d.bts⟩⟩
  · have HR := Lib.hid hR
    have HB := Lib.hid hb2
    clear hs hR hb2 hb
    go_wp2_with fail
    go_ret2
    exact ⟨HB.out, .inr ⟨HR.out, rfl⟩⟩

set_option maxRecDepth 100000 in
set_option maxHeartbeats 1000000 in
theorem implCommentsOf_any {E : EB} {A : Option Addr} {c : Nat} {data : List UInt8} {w : World} (hbt : Bts w A data) (hl : data.length ≤ 4294967296)
    (he : E.Ok 7 8 w) :
    Calls Tryd.prog 26 #[.slice A data.length c] w (RCmPost w (readCm data)) := by
  have HL := Lib.hid hl
  have ho := own_empty w
  have hb1 : Bts (w.alloc (.cells #[] 5)) A data := hbt.below ((Below.refl _ _).alloc (Nat.le_refl _) _)
  go_enter Tryd.func26, Tryd.ntmps26
  go_wp2_with (first | (at_builtin; refine wpList_fresh rfl (.tmp 7) (.tmp 8) rfl w.heap.size w.heap.size c A data rfl rfl ho (Nat.le_refl _) (by simp) hb1 hl ?_; intro g cap w1 hf) | fail)
  have hbw : Below w.heap.size w w1 := ((Below.refl _ _).alloc (Nat.le_refl _) _).trans hf.below
  refine (zzReadComments_any hf.d hf.lc hf.cm hf.bg hbw he HL.out).mono ?_; rintro e w2 ⟨v, er, rfl, hb2, ⟨b, A2, cap2, hR, rfl, rfl, hbt2⟩ | ⟨x, hR, rfl⟩⟩
  · have HR := Lib.hid hR
    have HB := Lib.hid hb2
    have hbl : b.length ≤ 4294967296 := Nat.le_trans (readCm_short hR) HL.out
    have ho2 := own_empty w2
    have hbt3 : Bts (w2.alloc (.cells #[] 5)) A2 b := hbt2.below ((Below.refl _ _).alloc (Nat.le_refl _) _)
    clear hR hb2 hbt2 hf ho hb1 hbt hbw
    go_wp2_with (at_builtin; refine wpList_fresh rfl (.tmp 15) (.tmp 16) rfl w2.heap.size w2.heap.size cap2 A2 b rfl rfl ho2 (Nat.le_refl _) (by simp) hbt3 hbl ?_; intro g3 cap3 w3 hf)
    go_ret2
    exact ⟨HB.out.trans ((((Below.refl _ _).alloc (Nat.le_refl _) _).trans hf.below).mono HB.out.size), .inl ⟨b, _, cap3, HR.out, rfl, hf.d.bts⟩⟩
  · have HR := Lib.hid hR
    have HB := Lib.hid hb2
    clear hR hb2 hf ho hb1 hbt hbw
    go_wp2_with fail
    go_ret2
    exact ⟨HB.out, .inr ⟨HR.out, rfl⟩⟩

/-- The list's variable, new and empty. -/
def lsWorld (w : World) : World := (w.alloc (.cells #[] 9)).alloc (.cells #[.slice (some ⟨w.heap.size, 0, none⟩) 0 0] 23)
theorem lsWorld_size (w : World) : (lsWorld w).heap.size = w.heap.size + 2 := by unfold lsWorld; simp
theorem lsWorld_l (w : World) : (lsWorld w).heap[w.heap.size + 1]? = some (.cells #[.slice (some ⟨w.heap.size, 0, none⟩) 0 0] 23 (0, 0)) := by
  have h := heap_alloc_new (w.alloc (.cells #[] 9)) (.cells #[.slice (some ⟨w.heap.size, 0, none⟩) 0 0] 23)
  rw [show (w.alloc (.cells #[] 9)).heap.size = w.heap.size + 1 by simp] at h
  exact h
theorem lsWorld_b (w : World) : (lsWorld w).heap[w.heap.size]? = some (.cells #[] 9 (0, 0)) :=
  (Below.heap_alloc _ _ _ (by simp)).trans (heap_alloc_new w _)
theorem lsWorld_below (w : World) : Below w.heap.size w (lsWorld w) := ((Below.refl _ _).alloc (Nat.le_refl _) _).alloc (by simp) _
def lsObj (w : World) (k : Nat) : Option Obj := if k = w.heap.size + 1 then some (.cells #[.slice (some ⟨w.heap.size, 0, none⟩) 0 0] 23 (0, 0)) else if k = w.heap.size then some (.cells #[] 9 (0, 0)) else none
theorem ls_obj {w w0 w1 : World} {s d : Nat} (hl0 : w0.heap[w.heap.size + 1]? = some (.cells #[.slice (some ⟨w.heap.size, 0, none⟩) 0 0] 23 (0, 0))) (hb0 : w0.heap[w.heap.size]? = some (.cells #[] 9 (0, 0))) (hz0 : w0.heap.size = w.heap.size + 2)
    (hb : Below w0.heap.size w0 w1) (hs : w0.heap.size ≤ s) (hd : w0.heap.size ≤ d) : ∀ k o, lsObj w k = some o → w1.heap[k]? = some o ∧ k ≠ s ∧ k ≠ d := by
  intro k o h
  unfold lsObj at h
  split at h
  · rename_i e
    subst e
    injection h with h
    subst h
    exact ⟨(hb.block _ (by omega)).trans hl0, by omega, by omega⟩
  · split at h
    · rename_i e
      subst e
      injection h with h
      subst h
      exact ⟨(hb.block _ (by omega)).trans hb0, by omega, by omega⟩
    · cases h
theorem ls_at {w w0 w1 : World} (hl0 : w0.heap[w.heap.size + 1]? = some (.cells #[.slice (some ⟨w.heap.size, 0, none⟩) 0 0] 23 (0, 0))) (hb0 : w0.heap[w.heap.size]? = some (.cells #[] 9 (0, 0))) (hz0 : w0.heap.size = w.heap.size + 2)
    (hb : Below w0.heap.size w0 w1) : GI.LsA (lsObj w) w.heap.size (w.heap.size + 1) (.slice (some ⟨w.heap.size, 0, none⟩) 0 0) [] w1 := by
  refine ⟨by unfold lsObj; rw [if_pos rfl], ?_, fun g hg => ?_, fun e => ?_, fun k o h => ?_, fun k o h => ?_⟩
  · exact ⟨rfl, .inr ⟨w.heap.size, 0, #[], rfl, Nat.le_refl _, (hb.block _ (by omega)).trans hb0, Nat.le_refl _, by decide, rfl, rfl⟩⟩
  · have : g = w.heap.size := by simpa [Value.ownBlock] using hg.symm
    subst this
    exact ⟨_, by unfold lsObj; rw [if_neg (by omega), if_pos rfl]⟩
  · simp [Value.ownBlock] at e
  · unfold lsObj at h
    split at h
    · omega
    · split at h
      · omega
      · cases h
  · unfold lsObj at h
    split at h
    · exact .inl ‹_›
    · split at h
      · rename_i e; subst e; exact .inr rfl
      · cases h

theorem ls_below {w2 w3 : World} {g cap : Nat} {b : List UInt8} {o : Obj} (hf : Fresh w2.drew.heap.size (w2.drew.alloc o) w3 g cap b) : Below w2.heap.size w2 w3 := (((below_drewN (Below.refl _ _) 1)).alloc (Nat.le_refl _) _).trans hf.below
theorem ls_own {w2 w3 : World} {g cap base n : Nat} {v : Value} {xs : List Value} {t : TypeId} {b : List UInt8} {o : Obj} (h : w2.ownsRow base t 1 v n xs) (hf : Fresh w2.drew.heap.size (w2.drew.alloc o) w3 g cap b) : w3.ownsRow base t 1 v n xs :=
  ownsRow_keep h (fun g hg => (ls_below hf).block g (own_lt h g hg).2)
theorem ls_cell {w2 w3 : World} {l : Nat} {v : Value} {g cap : Nat} {b : List UInt8} {o : Obj} (h : w2.cell? ⟨l, 0, none⟩ = some v) (hl : l < w2.heap.size) (hf : Fresh w2.drew.heap.size (w2.drew.alloc o) w3 g cap b) : w3.cell? ⟨l, 0, none⟩ = some v := by
  have h1 : Below w2.heap.size w2 w3 := (((below_drewN (Below.refl _ _) 1)).alloc (Nat.le_refl _) _).trans hf.below
  exact (World.cell?_of_block (a := ⟨l, 0, none⟩) (h1.block l hl)).trans h

set_option maxRecDepth 100000 in
set_option maxHeartbeats 1000000 in
theorem implReadImports_any {E : EB} {A : Option Addr} {c : Nat} {data : List UInt8} {w : World} (most : Int) (rep : Bool) (hm : IntKind.i64.wrap most = most) (hbt : Bts w A data) (hl : data.length ≤ 4294967296)
    (he : E.Ok 1 0 w) :
    Calls Tryd.prog 10 #[.slice A data.length c, .int .i64 most, .bool rep] w (RImPost w (readIm rep data)) := by
  have HL := Lib.hid hl
  go_enter Tryd.func10, Tryd.ntmps10
  have hl0 : (lsWorld w).heap[w.heap.size + 1]? = some (.cells #[.slice (some ⟨w.heap.size, 0, none⟩) 0 0] 23 (0, 0)) := lsWorld_l w
  have hb0 : (lsWorld w).heap[w.heap.size]? = some (.cells #[] 9 (0, 0)) := lsWorld_b w
  have hz0 : (lsWorld w).heap.size = w.heap.size + 2 := lsWorld_size w
  have hbel0 : Below w.heap.size w (lsWorld w) := lsWorld_below w
  have hbt0 : Bts (lsWorld w) A data := hbt.below hbel0
  have HW : Hid ((w.alloc (.cells #[] 9)).alloc (.cells #[.slice (some ⟨w.heap.size, 0, none⟩) 0 0] 23) = lsWorld w) := Lib.hid rfl
  go_wp2_with fail
  rw [HW.out]
  clear HW hbt hl
  generalize lsWorld w = w0 at *
  refine (reading_any most hm hbt0 HL.out).mono ?_; rintro e w1 ⟨s, d, rfl, hs, hds, hbs, hbd, hb⟩
  have hO := ls_obj hl0 hb0 hz0 hb (s := s) (d := d) (by omega) (by omega)
  have hLs := ls_at hl0 hb0 hz0 hb
  have hbw : Below w.heap.size w w1 := hbel0.trans (hb.mono hbel0.size)
  have hbs1 : w.heap.size ≤ s := by omega
  have hbd1 : w.heap.size ≤ d := by omega
  clear hbt0 hl0 hb0 hz0 hbel0 hbs hbd hb
  go_wp2_with fail
  refine (GI.readImports_any (K := .own) rep hs hds hbs1 hbd1 hbw he hO hLs HL.out).mono ?_; rintro e w2 ⟨p, v, er, S, ls, rfl, hrd, ⟨b, L, A2, cap, hR, rfl, rfl, rfl, hbt2⟩ | ⟨x, hR, rfl⟩⟩
  · have HR := Lib.hid hR
    have hbl : b.length ≤ 4294967296 := Nat.le_trans (readIm_short hR).1 HL.out
    obtain ⟨O2, LV2, hrd2, hls2⟩ := hrd
    have HB : Hid (Below w.heap.size w w2) := Lib.hid hrd2.facts.1
    have hlo := hrd2.obj hls2.lcell
    have c9 : w2.cell? ⟨w.heap.size + 1, 0, none⟩ = some LV2 := cells_row hlo 0
    have HOWN := Lib.hid hls2.own
    clear hs hR hbw hrd2 hls2 hO hLs hlo
    have hbt3 : Bts (w2.drew.alloc (.cells #[] 5)) A2 b := hbt2.below (((below_drewN (Below.refl _ _) 1)).alloc (Nat.le_refl _) _)
    have ho := own_empty w2.drew
    have hlt9 : w.heap.size + 1 < w2.heap.size := World.block_lt_of_cell? w2 _ c9
    go_wp2_with fail
    go_region_law (refine step_fresh rfl (.tmp 24) (.tmp 25) rfl w2.drew.heap.size w2.drew.heap.size cap A2 b (by simp [Act.eval, Act.put]) (by simp [Act.eval, Act.put]) ho (Nat.le_refl _) (by simp) hbt3 hbl ?_; intro g cap3 w3 hf; have c9b := ls_cell c9 hlt9 hf)
    all_goals
      go_wp2_with fail
      go_ret3
      exact ⟨HB.out.trans ((ls_below hf).mono HB.out.size), .inl ⟨b, L, _, cap3, LV2, HR.out, rfl, hf.d.bts, by have := ls_own HOWN.out hf; rwa [List.length_map] at this⟩⟩
  · have HR := Lib.hid hR
    obtain ⟨O2, LV2, hrd2, hls2⟩ := hrd
    have HB : Hid (Below w.heap.size w w2) := Lib.hid hrd2.facts.1
    clear hs hR hbw hrd2 hls2 hO hLs
    go_wp2_with fail
    go_ret3
    exact ⟨HB.out, .inr ⟨HR.out, rfl⟩⟩
end Go.Proofs.YtgplcbobomainaaDoor
