/-
  The law FnTagMet.
-/
import Derived.Test.YtbociefjibgklaaDoorTagT
namespace Go.Proofs.YtbociefjibgklaaDoor
open Go.RowKit
set_option linter.unusedVariables false
set_option linter.unusedSimpArgs false

/-- What a law's walk knows of memory. -/
structure Env (w0 : World) (S : Stg) (H : Nat) (A : Option Addr) (tags : List ByteArray) (w : World) : Prop where
  below : Below w0.heap.size w0 w
  unix : UnixIs w
  rd : S.Rd w
  box : BoxAt S H w
  strs : Strs w A tags
section
variable {w0 : World} {S : Stg} {H : Nat} {A : Option Addr} {tags : List ByteArray} {w w' : World}
theorem Env.on (h : Env w0 S H A tags w) (hb : Below w.heap.size w w') : Env w0 S H A tags w' :=
  ⟨h.below.trans (hb.mono h.below.size), h.unix.below hb, h.rd.below hb, h.box.below hb, h.strs.below hb⟩
theorem Env.drew (h : Env w0 S H A tags w) : Env w0 S H A tags w.drew := h.on (Below.refl _ _).drew
theorem Env.drewN (h : Env w0 S H A tags w) (n : Nat) : Env w0 S H A tags (w.drewN n) := h.on (below_drewN (Below.refl _ _) n)
theorem tagMetE (t : ByteArray) (w : World) (hf : S.fits = true) (hb : (t.toList == [98, 111, 114, 105, 110, 103, 99, 114, 121, 112, 116, 111]) = false) (h : Env w0 S H A tags w) :
    Calls Tryd.prog 10 #[S.val, .string t] w fun e w' => e = .returned (.bool (met unixKeys S t)) ∧ Env w0 S H A tags w' :=
  (tagMet_any S t w (h.rd.ok hf) h.unix h.rd.mo hb).mono fun e w' ⟨he, hb⟩ => ⟨he, h.on hb⟩
theorem metE (t : ByteArray) (w : World) (h : Env w0 S H A tags w) :
    Calls Tryd.prog 11 #[S.val, .string t] w fun e w' => e = .returned (.bool (met unixKeys S t)) ∧ Env w0 S H A tags w' :=
  (met_any S t w h.rd).mono fun e w' ⟨he, hb⟩ => ⟨he, h.on hb⟩
end

theorem isTag_boring {t : ByteArray} (h : isTag t = true) : (t.toList == [98, 111, 114, 105, 110, 103, 99, 114, 121, 112, 116, 111]) = false := by
  unfold isTag at h
  simp only [Bool.and_eq_true, Bool.not_eq_true'] at h
  exact h.2.1.2

def TruePost (w : World) (e : Ending) (w' : World) : Prop := e = .returned (.bool true) ∧ Below w.heap.size w w'

set_option maxHeartbeats 4000000 in
theorem tagMetLaw (S : Stg) (A : Option Addr) (tags : List ByteArray) (cap : Nat) (w : World) (hS : S.Rd w) (hs : Strs w A tags) (hl : tags.length ≤ maxLen) (hm : UnixIs w) :
    Calls Tryd.prog 3 #[S.val, .slice A tags.length cap] w (TruePost w) := by
  have B1 := (Below.refl w.heap.size w).alloc (Nat.le_refl _) (.cells S.cells 24)
  have hE1 : Env w S w.heap.size A tags (w.alloc (.cells S.cells 24)) := ⟨B1, hm.below B1, hS.below B1, BoxAt.new S w, hs.below B1⟩
  clear B1 hm hS hs
  cases hf : S.fits
  · have HF := Lib.hid hf; clear hf
    unfold Stg.val Stg.cells at *
    go_enter Tryd.func3, Tryd.ntmps3
    go_wp2_with fail
    refine (fits1_any S _ hE1.rd).mono ?_; rintro e w2 ⟨rfl, hb⟩; rw [HF.out]
    have hE2 := hE1.on hb
    clear hb
    go_wp2_with fail
    go_ret
    exact ⟨rfl, hE2.below⟩
  · have HF := Lib.hid hf; clear hf
    unfold Stg.val Stg.cells at *
    go_enter Tryd.func3, Tryd.ntmps3
    go_wp2_with fail
    refine (fits1_any S _ hE1.rd).mono ?_; rintro e w2 ⟨rfl, hb⟩; rw [HF.out]
    have hE2 := hE1.on hb
    clear hb hE1
    cases hf2 : fits2 tags
    · have HF2 := Lib.hid hf2; clear hf2
      go_wp2_with fail
      refine (fits2_any _ tags _ _ hE2.strs hl).mono ?_; rintro e w3 ⟨rfl, rfl⟩; rw [HF2.out]
      go_wp2_with fail
      go_ret
      exact ⟨rfl, hE2.below⟩
    · have HF2 := Lib.hid hf2; clear hf2
      go_wp2_with fail
      refine (fits2_any _ tags _ _ hE2.strs hl).mono ?_; rintro e w3 ⟨rfl, rfl⟩; rw [HF2.out]
      unfold maxLen at hl
      go_wp2_with fail
      go_loopw [17] (fun i wr => ∃ k : Nat, k ≤ tags.length ∧ i = .int .i64 k ∧ Env w S w.heap.size A tags wr) (fun i _ => tags.length - (intOf i).toNat)
      case atStart => exact ⟨0, Nat.zero_le _, rfl, hE2⟩
      case round =>
        obtain ⟨k, hk, rfl, hE⟩ := hrel
        by_cases hlt : k < tags.length
        · obtain ⟨b, off, rfl, hb, hc⟩ := hE.strs.2 (by omega)
          have hck := hc k hlt
          have hsz : tags[k].size ≤ maxLen := hE.strs.1 _ (List.getElem_mem hlt)
          clear hc
          generalize hx : tags[k] = x at *
          have HX := Lib.hid hx; clear hx
          cases ht : isTag x
          · have HT := Lib.hid ht; clear ht
            go_wp2_with fail
            have HQ := Lib.hid (fun n : Nat => Calls.quiet_of_same (v := .bool false) ((isTag_any x hsz (wr.drewN n)).mono (fun e w' ⟨he, hw⟩ => ⟨by rw [he, HT.out], hw.symm⟩)))
            go_quiet ((exact HQ.out _))
            go_wp2_with fail
            go_roundw
            case rel => exact ⟨k + 1, by omega, by go_num, hE.drewN _⟩
            case measure => simp [intOf]; omega
          · have HB := Lib.hid (isTag_boring ht)
            have HT := Lib.hid ht; clear ht
            have hEd := hE.drew
            have c := hEd.box
            obtain ⟨_, c0, c1, c2, c3, c4, c5, c6⟩ := c
            go_wp2_with fail
            go_region_with (first
              | (go_at_call 9; refine (isTag_any x hsz _).mono ?_; rintro e w4 ⟨rfl, rfl⟩; rw [HT.out])
              | (go_at_call 10; refine (tagMetE (w0 := w) (S := S) (H := w.heap.size) (A := some ⟨b, off, none⟩) (tags := tags) x _ HF.out HB.out ?_).mono ?_; assumption; rintro e w5 ⟨rfl, hE5⟩; obtain ⟨_, c0', c1', c2', c3', c4', c5', c6'⟩ := hE5.box)
              | (go_at_call 11; refine (metE (w0 := w) (S := S) (H := w.heap.size) (A := some ⟨b, off, none⟩) (tags := tags) x _ ?_).mono ?_; assumption; rintro e w6 ⟨rfl, hE6⟩; obtain ⟨_, c0', c1', c2', c3', c4', c5', c6'⟩ := hE6.box))
            all_goals
              go_wp2_with fail
              go_roundw
              case rel => exact ⟨k + 1, by omega, by go_num, by assumption⟩
              case measure => simp [intOf]; omega
        · have hwk := hE.unix
          go_wp2_with fail
          refine (works_any _ hwk).mono ?_; rintro e w4 ⟨rfl, hb⟩
          have hE4 := hE.on hb
          clear hb
          go_wp2_with fail
          go_ret
          exact ⟨rfl, hE4.below⟩

end Go.Proofs.YtbociefjibgklaaDoor
