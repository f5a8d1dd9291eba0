/-
  The law FnTagMore.
-/
import Derived.Test.YtbociefjibgklaaDoorTagLaw
import Derived.OwnWalk
import Derived.Deep.Cut
namespace Go.Proofs.YtbociefjibgklaaDoor
open Go.RowKit
set_option linter.unusedVariables false
set_option linter.unusedSimpArgs false

theorem reads_of_strs {w : World} {A : Option Addr} {ss : List ByteArray} (h : Strs w A ss) : Reads w w.heap.size 1 A ss.length (sv ss) := by
  refine ⟨by rw [sv_len]; omega, fun hp => ?_⟩
  obtain ⟨b, off, rfl, hb, hc⟩ := h.2 hp
  refine ⟨_, rfl, hb, fun j u hu => ?_⟩
  have hj : j < ss.length := by have := (List.getElem?_eq_some_iff.1 hu).1; rwa [sv_len] at this
  rw [Go.WideShapes.add_plain, hc j hj]
  unfold sv at hu
  simpa [hj] using hu
theorem sv_cell (ss : List ByteArray) : ∀ u ∈ sv ss, u.oneCell' = true := by
  intro u hu
  unfold sv at hu
  obtain ⟨s, _, rfl⟩ := List.mem_map.1 hu
  rfl
theorem own_slice {w : World} {base : Nat} {e : TypeId} {v : Value} {ss : List ByteArray} (h : w.ownsRow base e 1 v ss.length (sv ss)) (hm : ∀ s ∈ ss, s.size ≤ maxLen) : ∃ A c, v = .slice A ss.length c ∧ Strs w A ss := by
  have h' := h
  rcases h.2 with ⟨rfl, h0⟩ | ⟨g, cap, cur, rfl, _⟩
  · refine ⟨none, 0, by rw [h0], hm, fun hp => by omega⟩
  · exact ⟨_, cap, rfl, own_strs h' hm⟩

theorem own_two {w : World} {base : Nat} {e : TypeId} {v : Value} {a b : List ByteArray} (h : w.ownsRow base e 1 v (0 + a.length + b.length) ((sv [] ++ sv a) ++ sv b)) (hm : ∀ s ∈ a ++ b, s.size ≤ maxLen) :
    ∃ A c, v = .slice A (a ++ b).length c ∧ ∀ w' : World, (∀ k, base ≤ k → k < w.heap.size → w'.heap[k]? = w.heap[k]?) → Strs w' A (a ++ b) := by
  have e1 : 0 + a.length + b.length = (a ++ b).length := by simp
  have e2 : (sv [] ++ sv a) ++ sv b = sv (a ++ b) := by unfold sv; simp
  rw [e1, e2] at h
  obtain ⟨hx, hv⟩ := h
  rcases hv with ⟨rfl, h0⟩ | ⟨g, cap, cur, rfl, hb, hg, hr⟩
  · exact ⟨none, 0, by rw [h0], fun w' _ => ⟨hm, fun hp => by omega⟩⟩
  · refine ⟨_, cap, rfl, fun w' hk => own_strs (base := base) (e := e) (cap := cap) ⟨hx, .inr ⟨g, cap, cur, rfl, hb, ?_, hr⟩⟩ hm⟩
    rw [hk g hb (Array.getElem?_eq_some_iff.1 hg).1]
    exact hg

/-- The setting lies whole in block b. -/
def BoxH (S : Stg) (b : Nat) (w : World) : Prop := w.heap[b]? = some (.cells S.cells 24 (0, 0))
theorem BoxH.at_ {S : Stg} {b : Nat} {w : World} (h : BoxH S b w) : BoxAt S b w := by
  refine ⟨(Array.getElem?_eq_some_iff.1 h).1, ?_, ?_, ?_, ?_, ?_, ?_, ?_⟩ <;> (rw [cell_of_row _ _ _ _ 24 (0, 0) h]; rfl)
theorem BoxH.below {S : Stg} {b : Nat} {w w' : World} (h : BoxH S b w) (hb : Below w.heap.size w w') : BoxH S b w' :=
  (hb.block b (Array.getElem?_eq_some_iff.1 h).1).trans h
theorem BoxH.new (S : Stg) (w : World) : BoxH S w.heap.size (w.alloc (.cells S.cells 24)) := heap_alloc_new w _
theorem BoxH.thaw {S : Stg} {b : Nat} {w : World} (h : BoxH S b w) (i : Nat) : w.frozen? ⟨b, i, none⟩ = false := by
  unfold World.frozen?
  rw [h]
  simp

theorem has_app (a b : List ByteArray) (x : ByteArray) : has (a ++ b) x = (has a x || has b x) := by unfold has; rw [List.any_append]
theorem or_mono {p a b : Bool} (h : a = true → b = true) (hp : (p || a) = true) : (p || b) = true := by
  cases p
  · simpa using h (by simpa using hp)
  · rfl
theorem met_more1 (u : List (List UInt8)) (S : Stg) (more : List ByteArray) (A : Option Addr) (c : Nat) (t : ByteArray) (h : met u S t = true) : met u { S with s1 := S.s1 ++ more, A1 := A, c1 := c } t = true := by
  unfold met at *
  simp only [has_app]
  refine or_mono (or_mono (or_mono (or_mono (or_mono (or_mono ?_))))) h
  cases has S.s1 t <;> cases has S.s2 t <;> cases has S.s3 t <;> simp
theorem met_more3 (u : List (List UInt8)) (S : Stg) (more : List ByteArray) (A : Option Addr) (c : Nat) (t : ByteArray) (h : met u S t = true) : met u { S with s3 := S.s3 ++ more, A3 := A, c3 := c } t = true := by
  unfold met at *
  simp only [has_app]
  refine or_mono (or_mono (or_mono (or_mono (or_mono (or_mono ?_))))) h
  cases has S.s1 t <;> cases has S.s2 t <;> cases has S.s3 t <;> simp

/-- A setting that a call can read whole, of any size that two lists of the law have together. -/
theorem tagMetOk (S : Stg) (t : ByteArray) (w : World) (hS : S.Ok w) (hm : UnixIs w) (ho : S.os.size ≤ maxLen) (hb : (t.toList == [98, 111, 114, 105, 110, 103, 99, 114, 121, 112, 116, 111]) = false) :
    Calls Tryd.prog 10 #[S.val, .string t] w fun e w' => e = .returned (.bool (met unixKeys S t)) ∧ Below w.heap.size w w' := tagMet_any S t w hS hm ho hb

set_option maxRecDepth 100000 in
set_option maxHeartbeats 4000000 in
theorem tagMoreLaw (S : Stg) (A : Option Addr) (more : List ByteArray) (cap : Nat) (tag : ByteArray) (w : World) (hS : S.Rd w) (hs : Strs w A more) (hl : more.length ≤ maxLen) (ht : tag.size ≤ maxLen) (hm : UnixIs w) :
    Calls Tryd.prog 4 #[S.val, .slice A more.length cap, .string tag] w (TruePost w) := by
  have B1 := (Below.refl w.heap.size w).alloc (Nat.le_refl _) (.cells S.cells 24)
  have hE1 : Env w S w.heap.size A more (w.alloc (.cells S.cells 24)) := ⟨B1, hm.below B1, hS.below B1, BoxAt.new S w, hs.below B1⟩
  clear B1 hm hS hs
  cases hf : S.fits
  · have HF := Lib.hid hf; clear hf
    unfold Stg.val Stg.cells at *
    go_enter Tryd.func4, Tryd.ntmps4
    go_wp2_with fail
    refine (fits1_any S _ hE1.rd).mono ?_; rintro e w2 ⟨rfl, hb⟩; rw [HF.out]
    have hE2 := hE1.on hb
    clear hb
    go_wp2_with fail
    go_ret
    exact ⟨rfl, hE2.below⟩
  have HF := Lib.hid hf; clear hf
  unfold Stg.val Stg.cells at *
  go_enter Tryd.func4, Tryd.ntmps4
  go_wp2_with fail
  refine (fits1_any S _ hE1.rd).mono ?_; rintro e w2 ⟨rfl, hb⟩; rw [HF.out]
  have hE2 := hE1.on hb
  clear hb hE1
  cases hf2 : fits2 more
  · have HF2 := Lib.hid hf2; clear hf2
    go_wp2_with fail
    refine (fits2_any _ more _ _ hE2.strs hl).mono ?_; rintro e w3 ⟨rfl, rfl⟩; rw [HF2.out]
    go_wp2_with fail
    go_ret
    exact ⟨rfl, hE2.below⟩
  have hmore := fits2_len hf2
  have hml : more.length ≤ 2147483647 := hmore.1
  have HMS : Hid (∀ s ∈ more, s.size ≤ maxLen) := Lib.hid fun s hs => by have := hmore.2 s hs; unfold maxLen; omega
  clear hmore
  have HF2 := Lib.hid hf2; clear hf2
  have hok := hE2.rd.ok HF.out
  have n1 := (fits2_len (by have := HF.out; unfold Stg.fits at this; simp only [Bool.and_eq_true] at this; exact this.1.1.2 : fits2 S.s1 = true)).1
  have n3 := (fits2_len (by have := HF.out; unfold Stg.fits at this; simp only [Bool.and_eq_true] at this; exact this.2 : fits2 S.s3 = true)).1
  have HM1 : Hid (∀ s ∈ S.s1 ++ more, s.size ≤ maxLen) := Lib.hid fun s hs => (List.mem_append.1 hs).elim (hE2.rd.h1.1 s) (HMS.out s)
  have HM3 : Hid (∀ s ∈ S.s3 ++ more, s.size ≤ maxLen) := Lib.hid fun s hs => (List.mem_append.1 hs).elim (hE2.rd.h3.1 s) (HMS.out s)
  have ho := hE2.rd.mo
  clear HMS hok
  by_cases h3 : tag.size ≤ 2147483647
  case neg =>
    unfold maxLen at ht
    go_wp2_with fail
    refine (fits2_any _ more _ _ hE2.strs hl).mono ?_; rintro e w3 ⟨rfl, rfl⟩; rw [HF2.out]
    go_wp2_with fail
    go_ret
    exact ⟨rfl, hE2.below⟩
  go_wp2_with fail
  refine (fits2_any _ more _ _ hE2.strs hl).mono ?_; rintro e w3 ⟨rfl, rfl⟩; rw [HF2.out]
  obtain ⟨hlt, c0, c1, c2, c3, c4, c5, c6⟩ := hE2.box
  go_upto_region 4 with fail
  have hbt := BoxH.new S w2
  have b4 := (Below.refl w2.heap.size w2).alloc (Nat.le_refl _) (.cells S.cells 24)
  have hE4 := hE2.on b4
  have hbel : Below w2.heap.size w2 (w2.alloc (.cells S.cells 24)) := b4
  clear c0 c1 c2 c3 c4 c5 c6 b4
  unfold Stg.cells at hbt hE4 hbel
  generalize w2.alloc (.cells _ _) = w4 at *
  obtain ⟨i0, hi0, hz0, hz1, hz2⟩ := info_parts str_info
  have hown0 := own_none w4 9
  have bA := (Below.refl w4.heap.size w4).alloc (Nat.le_refl _) (.cells #[] 9)
  have hEA := hE4.on bA
  have rA := reads_of_strs hEA.rd.h1
  obtain ⟨hlt4, c0, c1, c2, c3, c4, c5, c6⟩ := hE4.box
  have d4 := hbt.at_.c4
  have d5 := hbt.thaw 4
  have hlb : w2.heap.size < w4.heap.size := hbt.at_.lt
  go_upto_region 5 with (at_builtin; first
    | (refine wpList_append_any _ rfl (.tmp 23) (.tmp 25) 22 rfl w4.heap.size 9 i0 (.string ByteArray.empty) 1 16 Tryd.underlying22 hi0 hz0 hz1 hz2 rfl (by decide) _ 0 (sv []) rfl hown0 _ S.A1 S.s1.length S.c1 (sv S.s1) rfl rA (sv_cell _) (by unfold maxLen; omega) (by omega) (by simp) ?_; intro v1 w5 hown1 hgrow1 hblk1; have bB := bA.grown hgrow1 (by simp) (fun k hk => (hown0.lt k hk).1); have rB := reads_of_strs (hE4.on bB).strs)
    | (refine wpList_append_any _ rfl (.tmp 26) (.tmp 27) 22 rfl w4.heap.size 9 i0 (.string ByteArray.empty) 1 16 Tryd.underlying22 hi0 hz0 hz1 hz2 rfl (by decide) _ _ _ rfl hown1 _ A more.length cap (sv more) rfl rB (sv_cell _) (by unfold maxLen; omega) (by omega) bB.size ?_; intro v2 w6 hown2 hgrow2 hblk2; have bC := bB.grown hgrow2 bB.size (fun k hk => (hown1.lt k hk).1); have d4' := (bC.cell (p := ⟨w2.heap.size, 4, none⟩) hlb).trans d4; have d5' := (bC.frozen (p := ⟨w2.heap.size, 4, none⟩) hlb).trans d5; obtain ⟨A2, cc2, rfl, hst2⟩ := own_two hown2 HM1.out))
  have hbt6 : BoxH S w2.heap.size w6 := hbt.below bC
  have hbt7 := heap_setCell_same w6 w2.heap.size 4 S.cells 24 (.slice A2 (S.s1.length + more.length) cc2) hbt6
  have bel7 : Below w2.heap.size w2 (w6.setCell ⟨w2.heap.size, 4, none⟩ (.slice A2 (S.s1.length + more.length) cc2)) := (hbel.trans (bC.mono hbel.size)).setCell (Nat.le_refl _) _
  have hE7 := hE2.on bel7
  have hT1 := hst2 (w6.setCell ⟨w2.heap.size, 4, none⟩ (.slice A2 (S.s1.length + more.length) cc2)) (fun k hk _ => heap_setCell_other _ _ _ _ (by simp; omega))
  clear c0 c1 c2 c3 c4 c5 c6 d4 d5 d4' d5' hst2 hE4 hEA rA rB bA bB bC hown0 hown1 hown2 hgrow1 hgrow2 hblk1 hblk2 hbt hbt6 bel7 hlb hlt4 hE2 hbel
  generalize w6.setCell _ _ = w7 at *
  have hlm : (S.s1 ++ more).length = S.s1.length + more.length := List.length_append
  have hT0 : BoxH { S with s1 := S.s1 ++ more, A1 := A2, c1 := cc2 } w2.heap.size w7 := by
    unfold BoxH
    rw [hbt7]
    simp only [Stg.cells, hlm]
    rfl
  have hTok0 : Stg.Ok { S with s1 := S.s1 ++ more, A1 := A2, c1 := cc2 } w7 := ⟨hT1, hE7.rd.h2, hE7.rd.h3, by simp only [hlm]; omega, (hE7.rd.ok HF.out).l2, (hE7.rd.ok HF.out).l3⟩
  have HLM := Lib.hid hlm
  clear hlm hbt7 hT1
  obtain ⟨T, hT, hTok, HMT, hoT⟩ : ∃ T : Stg, BoxH T w2.heap.size w7 ∧ T.Ok w7 ∧ Hid (met unixKeys S tag = true → met unixKeys T tag = true) ∧ T.os.size ≤ maxLen := ⟨_, hT0, hTok0, Lib.hid (met_more1 _ _ _ _ _ _), ho⟩

  clear hT0 hTok0 HM1 HLM
  obtain ⟨hlt7, c0, c1, c2, c3, c4, c5, c6⟩ := hE7.box
  have hlT : w2.heap.size < w7.heap.size := hT.at_.lt
  go_upto_region 6 with fail
  have hbt := BoxH.new S w7
  have b8 := (Below.refl w7.heap.size w7).alloc (Nat.le_refl _) (.cells S.cells 24)
  have hE8 := hE7.on b8
  clear c0 c1 c2 c3 c4 c5 c6
  unfold Stg.cells at hbt hE8 b8
  generalize w7.alloc (.cells _ _) = w8 at *
  have hown0 := own_none w8 9
  have bA := (Below.refl w8.heap.size w8).alloc (Nat.le_refl _) (.cells #[] 9)
  have hEA := hE8.on bA
  have rA := reads_of_strs hEA.rd.h3
  obtain ⟨hlt4, c0, c1, c2, c3, c4, c5, c6⟩ := hE8.box
  have d4 := hbt.at_.c6
  have d5 := hbt.thaw 6
  have hlb : w7.heap.size < w8.heap.size := hbt.at_.lt
  go_upto_region 7 with (at_builtin; first
    | (refine wpList_append_any _ rfl (.tmp 31) (.tmp 33) 22 rfl w8.heap.size 9 i0 (.string ByteArray.empty) 1 16 Tryd.underlying22 hi0 hz0 hz1 hz2 rfl (by decide) _ 0 (sv []) rfl hown0 _ S.A3 S.s3.length S.c3 (sv S.s3) rfl rA (sv_cell _) (by unfold maxLen; omega) (by omega) (by simp) ?_; intro v1 w9 hown1 hgrow1 hblk1; have bB := bA.grown hgrow1 (by simp) (fun k hk => (hown0.lt k hk).1); have rB := reads_of_strs (hE8.on bB).strs)
    | (refine wpList_append_any _ rfl (.tmp 34) (.tmp 35) 22 rfl w8.heap.size 9 i0 (.string ByteArray.empty) 1 16 Tryd.underlying22 hi0 hz0 hz1 hz2 rfl (by decide) _ _ _ rfl hown1 _ A more.length cap (sv more) rfl rB (sv_cell _) (by unfold maxLen; omega) (by omega) bB.size ?_; intro v2 w10 hown2 hgrow2 hblk2; have bC := bB.grown hgrow2 bB.size (fun k hk => (hown1.lt k hk).1); have d4' := (bC.cell (p := ⟨w7.heap.size, 6, none⟩) hlb).trans d4; have d5' := (bC.frozen (p := ⟨w7.heap.size, 6, none⟩) hlb).trans d5; obtain ⟨A3, cc3, rfl, hst2⟩ := own_two hown2 HM3.out))
  have hbt10 : BoxH S w7.heap.size w10 := hbt.below bC
  have hbt11 := heap_setCell_same w10 w7.heap.size 6 S.cells 24 (.slice A3 (S.s3.length + more.length) cc3) hbt10
  have bel11 : Below w7.heap.size w7 (w10.setCell ⟨w7.heap.size, 6, none⟩ (.slice A3 (S.s3.length + more.length) cc3)) := (b8.trans (bC.mono b8.size)).setCell (Nat.le_refl _) _
  have hE11 := hE7.on bel11
  have hU3 := hst2 (w10.setCell ⟨w7.heap.size, 6, none⟩ (.slice A3 (S.s3.length + more.length) cc3)) (fun k hk _ => heap_setCell_other _ _ _ _ (by simp; omega))
  have hT11 := hT.below bel11
  have hTok11 := hTok.below bel11
  clear c0 c1 c2 c3 c4 c5 c6 d4 d5 d4' d5' hst2 hE8 hEA rA rB bA bB bC hown0 hown1 hown2 hgrow1 hgrow2 hblk1 hblk2 hbt hbt10 bel11 hlb hlt4 b8 hE7 hT hTok
  generalize w10.setCell _ _ = w11 at *
  have hlm : (S.s3 ++ more).length = S.s3.length + more.length := List.length_append
  obtain ⟨U, hU, hUok, HMU, hoU⟩ : ∃ U : Stg, BoxH U w7.heap.size w11 ∧ U.Ok w11 ∧ Hid (met unixKeys S tag = true → met unixKeys U tag = true) ∧ U.os.size ≤ maxLen := by
    refine ⟨{ S with s3 := S.s3 ++ more, A3 := A3, c3 := cc3 }, ?_, ⟨hE11.rd.h1, hE11.rd.h2, hU3, (hE11.rd.ok HF.out).l1, (hE11.rd.ok HF.out).l2, by simp only [hlm]; omega⟩, Lib.hid (met_more3 _ _ _ _ _ _), ho⟩
    unfold BoxH
    rw [hbt11]
    simp only [Stg.cells, hlm]
    rfl
  clear hlm hbt11 hU3 HM3
  obtain ⟨_, c0, c1, c2, c3, c4, c5, c6⟩ := hE11.box
  cases hg : isTag tag
  · have HG := Lib.hid hg; clear hg
    go_wp2_with fail
    refine (isTag_any tag ht _).mono ?_; rintro e w12 ⟨rfl, rfl⟩; rw [HG.out]
    go_wp2_with fail
    refine (works_any _ hE11.unix).mono ?_; rintro e w13 ⟨rfl, hb⟩
    have hE13 := hE11.on hb
    clear hb
    go_wp2_with fail
    go_ret
    exact ⟨rfl, hE13.below⟩
  have HB := Lib.hid (isTag_boring hg)
  have HG := Lib.hid hg; clear hg
  go_wp2_with fail
  refine (isTag_any tag ht _).mono ?_; rintro e w12 ⟨rfl, rfl⟩; rw [HG.out]
  go_wp2_with fail
  refine (tagMet_any S tag _ (hE11.rd.ok HF.out) hE11.unix ho HB.out).mono ?_; rintro e w12 ⟨rfl, hb⟩
  have hE12 := hE11.on hb
  have hT12 := hT11.below hb
  have hTok12 := hTok11.below hb
  have hU12 := hU.below hb
  have hUok12 := hUok.below hb
  clear c0 c1 c2 c3 c4 c5 c6 hb hE11 hT11 hTok11 hU hUok
  cases hmet : met unixKeys S tag
  · clear hmet
    go_wp2_with fail
    refine (works_any _ hE12.unix).mono ?_; rintro e w13 ⟨rfl, hb⟩
    have hE13 := hE12.on hb
    clear hb
    go_wp2_with fail
    go_ret
    exact ⟨rfl, hE13.below⟩
  have HT := Lib.hid (HMT.out hmet)
  have HU := Lib.hid (HMU.out hmet)
  clear hmet
  go_wp2_with fail
  refine (works_any _ hE12.unix).mono ?_; rintro e w13 ⟨rfl, hb⟩
  have hE13 := hE12.on hb
  have hT13 := hT12.below hb
  have hTok13 := hTok12.below hb
  have hU13 := hU12.below hb
  have hUok13 := hUok12.below hb
  clear hb hE12 hT12 hTok12 hU12 hUok12
  obtain ⟨_, c0, c1, c2, c3, c4, c5, c6⟩ := hT13.at_
  go_wp2_with fail
  refine (tagMet_any T tag _ hTok13 hE13.unix hoT HB.out).mono ?_; rintro e w14 ⟨rfl, hb⟩; rw [HT.out]
  have hE14 := hE13.on hb
  have hU14 := hU13.below hb
  have hUok14 := hUok13.below hb
  clear hb hE13 hT13 hTok13 hU13 hUok13 c0 c1 c2 c3 c4 c5 c6
  obtain ⟨_, c0, c1, c2, c3, c4, c5, c6⟩ := hU14.at_
  go_wp2_with fail
  refine (tagMet_any U tag _ hUok14 hE14.unix hoU HB.out).mono ?_; rintro e w15 ⟨rfl, hb⟩; rw [HU.out]
  have hE15 := hE14.on hb
  clear hb hE14
  go_wp2_with fail
  go_ret
  exact ⟨rfl, hE15.below⟩

end Go.Proofs.YtbociefjibgklaaDoor
