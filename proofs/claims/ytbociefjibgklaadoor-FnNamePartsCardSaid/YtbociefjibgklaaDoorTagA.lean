/-
  Small words of the tags: lists, letters, Has, Contains, the sizes.
-/
import Derived.Test.YtbociefjibgklaaDoorCtx
import Derived.Test.YtbociefjibgklaaDoorByt
import Derived.Test.YtbociefjibgklaaDoorBas
import Derived.LoopTactic
import Derived.Deep.QuietTactic
import Derived.BigQuiet
namespace Go.Proofs.YtbociefjibgklaaDoor
open Go.RowKit
set_option linter.unusedVariables false
set_option linter.unusedSimpArgs false

theorem take_snoc (s : ByteArray) (k : Nat) (h : k < s.size) : s.data.toList.take (k + 1) = s.data.toList.take k ++ [s[k]] := by
  rw [List.take_succ_eq_append_getElem (by simpa using h)]; rfl
theorem mem_at (s : ByteArray) (k : Nat) (h : k < s.size) : s[k] ∈ s.data.toList := by
  have e : s[k] = s.data.toList[k]'(by simpa using h) := rfl
  rw [e]; exact List.getElem_mem _
theorem all_snoc {p : UInt8 → Bool} {s : ByteArray} {k : Nat} (h : k < s.size) (h1 : (s.data.toList.take k).all p = true) (h2 : p s[k] = true) : (s.data.toList.take (k + 1)).all p = true := by
  rw [take_snoc s k h, List.all_append, h1]; simp [h2]
theorem all_not {p : UInt8 → Bool} {s : ByteArray} {k : Nat} (h : k < s.size) (h2 : p s[k] = false) : s.data.toList.all p = false := by
  rw [List.all_eq_false]
  exact ⟨_, mem_at s k h, by simp [h2]⟩
theorem all_whole {p : UInt8 → Bool} {s : ByteArray} {k : Nat} (h : s.size ≤ k) (h1 : (s.data.toList.take k).all p = true) : s.data.toList.all p = true := by
  rwa [List.take_of_length_le (by rw [← size_list]; exact h)] at h1
theorem take_snoc_l {α : Type} (ss : List α) (k : Nat) (h : k < ss.length) : ss.take (k + 1) = ss.take k ++ [ss[k]] := by
  rw [List.take_succ_eq_append_getElem h]
theorem lall_snoc {α : Type} {p : α → Bool} {s : List α} {k : Nat} (h : k < s.length) (h1 : (s.take k).all p = true) (h2 : p s[k] = true) : (s.take (k + 1)).all p = true := by
  rw [take_snoc_l s k h, List.all_append, h1]; simp [h2]
theorem lall_not {α : Type} {p : α → Bool} {s : List α} {k : Nat} (h : k < s.length) (h2 : p s[k] = false) : s.all p = false := by
  rw [List.all_eq_false]
  exact ⟨_, List.getElem_mem h, by simp [h2]⟩
theorem lall_whole {α : Type} {p : α → Bool} {s : List α} {k : Nat} (h : s.length ≤ k) (h1 : (s.take k).all p = true) : s.all p = true := by
  rwa [List.take_of_length_le h] at h1

/-- The texts fit: no list and no text is longer than 2147483647. -/
def fits2 (ss : List ByteArray) : Bool := decide (ss.length ≤ 2147483647) && ss.all fun s => decide (s.size ≤ 2147483647)
theorem fits2_len {ss : List ByteArray} (h : fits2 ss = true) : ss.length ≤ 2147483647 ∧ ∀ s ∈ ss, s.size ≤ 2147483647 := by
  unfold fits2 at h
  simp only [Bool.and_eq_true, decide_eq_true_eq, List.all_eq_true] at h
  exact h

theorem fits2_any (A : Option Addr) (ss : List ByteArray) (cap : Nat) (w : World) (hs : Strs w A ss) (hl : ss.length ≤ maxLen) :
    Calls Tryd.prog 8 #[.slice A ss.length cap] w fun e w' => e = .returned (.bool (fits2 ss)) ∧ w = w' := by
  unfold maxLen at hl
  by_cases hbig : ss.length ≤ 2147483647
  · have HE : Hid (fits2 ss = ss.all fun s => decide (s.size ≤ 2147483647)) := Lib.hid <| by unfold fits2; rw [decide_eq_true hbig]; simp
    go_enter Tryd.func8, Tryd.ntmps8
    go_wp2
    go_loop [10] (fun i => ∃ k : Nat, k ≤ ss.length ∧ i = .int .i64 k ∧ ((ss.take k).all fun s => decide (s.size ≤ 2147483647)) = true) (fun i => ss.length - (intOf i).toNat)
    case atStart => exact ⟨0, Nat.zero_le _, rfl, by simp⟩
    case round =>
      obtain ⟨k, hk, rfl, hall⟩ := hrel
      have HA := Lib.hid hall; clear hall
      by_cases hlt : k < ss.length
      · obtain ⟨b, off, rfl, hb, hc⟩ := hs.2 (by omega)
        have hck := hc k hlt
        have hsz : ss[k].size ≤ 9223372036854775807 := by have := hs.1 ss[k] (List.getElem_mem hlt); unfold maxLen at this; omega
        clear hc hs
        generalize hx : ss[k] = x at *
        have HX := Lib.hid hx; clear hx
        by_cases hx : x.size ≤ 2147483647
        · go_wp2
          go_round
          case rel => exact ⟨k + 1, by omega, by go_num, lall_snoc hlt HA.out (by rw [HX.out]; simpa using hx)⟩
          case measure => simp [intOf]; omega
        · go_wp2
          go_ret
          exact ⟨ret_bool (by rw [HE.out, lall_not hlt (by rw [HX.out]; simpa using hx)]), rfl⟩
      · go_wp2
        go_ret
        exact ⟨ret_bool (by rw [HE.out]; exact (lall_whole (by omega) HA.out).symm), rfl⟩
  · have HE : Hid (fits2 ss = false) := Lib.hid <| by unfold fits2; rw [decide_eq_false hbig]; simp
    go_enter Tryd.func8, Tryd.ntmps8
    go_wp2
    go_ret
    exact ⟨ret_bool HE.out.symm, rfl⟩

/-- What zzFits1 asks of a setting. -/
def Stg.fits (S : Stg) : Bool := decide (S.os.size ≤ 2147483647) && decide (S.ar.size ≤ 2147483647) && decide (S.co.size ≤ 2147483647) && fits2 S.s1 && fits2 S.s2 && fits2 S.s3
/-- The setting is readable. -/
structure Stg.Rd (S : Stg) (w : World) : Prop where
  h1 : Strs w S.A1 S.s1
  h2 : Strs w S.A2 S.s2
  h3 : Strs w S.A3 S.s3
  l1 : S.s1.length ≤ maxLen
  l2 : S.s2.length ≤ maxLen
  l3 : S.s3.length ≤ maxLen
  mo : S.os.size ≤ maxLen
  ma : S.ar.size ≤ maxLen
  mc : S.co.size ≤ maxLen
theorem Stg.Rd.below {S : Stg} {w w' : World} (h : S.Rd w) (hb : Below w.heap.size w w') : S.Rd w' := ⟨h.h1.below hb, h.h2.below hb, h.h3.below hb, h.l1, h.l2, h.l3, h.mo, h.ma, h.mc⟩
theorem Stg.Rd.ok {S : Stg} {w : World} (h : S.Rd w) (hf : S.fits = true) : S.Ok w := by
  unfold Stg.fits at hf
  simp only [Bool.and_eq_true, decide_eq_true_eq] at hf
  have a1 := (fits2_len hf.1.1.2).1
  have a2 := (fits2_len hf.1.2).1
  have a3 := (fits2_len hf.2).1
  exact ⟨h.h1, h.h2, h.h3, by omega, by omega, by omega⟩

set_option maxHeartbeats 1000000 in
theorem fits1_any (S : Stg) (w : World) (h : S.Rd w) :
    Calls Tryd.prog 7 #[S.val] w fun e w' => e = .returned (.bool S.fits) ∧ Below w.heap.size w w' := by
  unfold Stg.val Stg.cells
  have hb := (Below.refl w.heap.size w).alloc (Nat.le_refl _) (.cells #[.string S.os, .string S.ar, .bool S.cgo, .string S.co, .slice S.A1 S.s1.length S.c1, .slice S.A2 S.s2.length S.c2, .slice S.A3 S.s3.length S.c3] 24)
  have h1 := h.h1.below hb
  have h2 := h.h2.below hb
  have h3 := h.h3.below hb
  have l1 := h.l1
  have l2 := h.l2
  have l3 := h.l3
  have mo : S.os.size ≤ 9223372036854775807 := by have := h.mo; unfold maxLen at this; omega
  have ma : S.ar.size ≤ 9223372036854775807 := by have := h.ma; unfold maxLen at this; omega
  have mc : S.co.size ≤ 9223372036854775807 := by have := h.mc; unfold maxLen at this; omega
  by_cases e1 : S.os.size ≤ 2147483647
  · by_cases e2 : S.ar.size ≤ 2147483647
    · by_cases e3 : S.co.size ≤ 2147483647
      · have HF : Hid (S.fits = (fits2 S.s1 && fits2 S.s2 && fits2 S.s3)) := Lib.hid <| by unfold Stg.fits; rw [decide_eq_true e1, decide_eq_true e2, decide_eq_true e3]; simp
        clear h
        go_enter Tryd.func7, Tryd.ntmps7
        go_wp2_with fail
        refine (fits2_any _ S.s1 _ _ h1 l1).mono ?_; rintro e w' ⟨rfl, rfl⟩
        cases f1 : fits2 S.s1
        · have HG := Lib.hid f1; clear f1
          go_wp2_with fail
          go_ret
          exact ⟨ret_bool (by rw [HF.out, HG.out]; rfl), hb⟩
        · have HG := Lib.hid f1; clear f1
          go_wp2_with fail
          refine (fits2_any _ S.s2 _ _ h2 l2).mono ?_; rintro e w' ⟨rfl, rfl⟩
          cases f2 : fits2 S.s2
          · have HG2 := Lib.hid f2; clear f2
            go_wp2_with fail
            go_ret
            exact ⟨ret_bool (by rw [HF.out, HG.out, HG2.out]; rfl), hb⟩
          · have HG2 := Lib.hid f2; clear f2
            go_wp2_with fail
            refine (fits2_any _ S.s3 _ _ h3 l3).mono ?_; rintro e w' ⟨rfl, rfl⟩
            cases f3 : fits2 S.s3
            · have HG3 := Lib.hid f3; clear f3
              go_wp2_with fail
              go_ret
              exact ⟨ret_bool (by rw [HF.out, HG.out, HG2.out, HG3.out]; rfl), hb⟩
            · have HG3 := Lib.hid f3; clear f3
              go_wp2_with fail
              go_ret
              exact ⟨ret_bool (by rw [HF.out, HG.out, HG2.out, HG3.out]; rfl), hb⟩
      · have HF : Hid (S.fits = false) := Lib.hid <| by unfold Stg.fits; rw [decide_eq_false e3]; simp
        go_enter Tryd.func7, Tryd.ntmps7
        go_wp2_with fail
        go_ret
        exact ⟨ret_bool HF.out.symm, hb⟩
    · have HF : Hid (S.fits = false) := Lib.hid <| by unfold Stg.fits; rw [decide_eq_false e2]; simp
      go_enter Tryd.func7, Tryd.ntmps7
      go_wp2_with fail
      go_ret
      exact ⟨ret_bool HF.out.symm, hb⟩
  · have HF : Hid (S.fits = false) := Lib.hid <| by unfold Stg.fits; rw [decide_eq_false e1]; simp
    go_enter Tryd.func7, Tryd.ntmps7
    go_wp2_with fail
    go_ret
    exact ⟨ret_bool HF.out.symm, hb⟩

/-! ### Has, Contains -/
def has (ss : List ByteArray) (x : ByteArray) : Bool := ss.any fun s => s.toList == x.toList
theorem has_yes {ss : List ByteArray} {x : ByteArray} {k : Nat} (h : k < ss.length) (e : ss[k] = x) : has ss x = true := by
  unfold has; rw [List.any_eq_true, ← e]; exact ⟨_, List.getElem_mem h, by simp⟩
theorem has_no {ss : List ByteArray} {x : ByteArray} {k : Nat} (hk : ss.length ≤ k) (h : ((ss.take k).all fun b => !(b.toList == x.toList)) = true) : has ss x = false := by
  unfold has
  rw [List.any_eq_false]
  intro s hm
  rw [List.take_of_length_le hk] at h
  have := List.all_eq_true.1 h s hm
  simpa using this
theorem has_any (A : Option Addr) (ss : List ByteArray) (x : ByteArray) (cap : Nat) (w : World) (hs : Strs w A ss) (hl : ss.length ≤ maxLen) :
    Calls Tryd.prog 23 #[.slice A ss.length cap, .string x] w fun e w' => e = .returned (.bool (has ss x)) ∧ w = w' := by
  unfold maxLen at hl
  go_enter Tryd.func23, Tryd.ntmps23
  go_wp2
  go_loop [9] (fun i => ∃ k : Nat, k ≤ ss.length ∧ i = .int .i64 k ∧ ((ss.take k).all fun b => !(b.toList == x.toList)) = true) (fun i => ss.length - (intOf i).toNat)
  case atStart => exact ⟨0, Nat.zero_le _, rfl, by simp⟩
  case round =>
    obtain ⟨k, hk, rfl, hall⟩ := hrel
    have HA := Lib.hid hall; clear hall
    by_cases hlt : k < ss.length
    · obtain ⟨b, off, rfl, hb, hc⟩ := hs.2 (by omega)
      have hck := hc k hlt
      clear hc hs
      generalize hy : ss[k] = y at *
      have HY := Lib.hid hy; clear hy
      cases he : y.toList == x.toList
      · have HE := Lib.hid he
        go_wp2
        go_round
        case rel => exact ⟨k + 1, by omega, by go_num, lall_snoc hlt HA.out (by rw [HY.out, HE.out]; rfl)⟩
        case measure => simp [intOf]; omega
      · have HE : Hid (y = x) := Lib.hid (bytes_eq (by simpa using he))
        go_wp2
        go_ret
        exact ⟨ret_bool (has_yes hlt (by rw [HY.out, HE.out])).symm, rfl⟩
    · go_wp2
      go_ret
      exact ⟨ret_bool (has_no (by omega) HA.out).symm, rfl⟩

/-- What slices.Index returns: at least 0 just where the text is in the list. -/
def IdxPost (ss : List ByteArray) (x : ByteArray) (w : World) (e : Ending) (w' : World) : Prop := w = w' ∧ ∃ i : Int, e = .returned (.int .i64 i) ∧ decide (0 ≤ i) = has ss x
theorem index_any (A : Option Addr) (ss : List ByteArray) (x : ByteArray) (cap : Nat) (w : World) (hs : Strs w A ss) (hl : ss.length ≤ maxLen) :
    Calls Tryd.prog 36 #[.slice A ss.length cap, .string x] w (IdxPost ss x w) := by
  unfold maxLen at hl
  go_enter Tryd.func36, Tryd.ntmps36
  go_wp2
  go_loop [8] (fun i => ∃ k : Nat, k ≤ ss.length ∧ i = .int .i64 k ∧ ((ss.take k).all fun b => !(b.toList == x.toList)) = true) (fun i => ss.length - (intOf i).toNat)
  case atStart => exact ⟨0, Nat.zero_le _, rfl, by simp⟩
  case round =>
    obtain ⟨k, hk, rfl, hall⟩ := hrel
    have HA := Lib.hid hall; clear hall
    by_cases hlt : k < ss.length
    · obtain ⟨b, off, rfl, hb, hc⟩ := hs.2 (by omega)
      have hck := hc k hlt
      clear hc hs
      generalize hy : ss[k] = y at *
      have HY := Lib.hid hy; clear hy
      cases he : x.toList == y.toList
      · have HE : Hid ((y.toList == x.toList) = false) := Lib.hid <| by
          rw [beq_eq_false_iff_ne] at he ⊢; exact fun e => he e.symm
        go_wp2
        go_round
        case rel => exact ⟨k + 1, by omega, by go_num, lall_snoc hlt HA.out (by rw [HY.out, HE.out]; rfl)⟩
        case measure => simp [intOf]; omega
      · have HE : Hid (y = x) := Lib.hid (bytes_eq (by simpa using (beq_iff_eq.1 he).symm))
        go_wp2
        go_ret
        exact ⟨rfl, _, rfl, by rw [has_yes hlt (by rw [HY.out, HE.out])]; simp⟩
    · go_wp2
      go_ret
      exact ⟨rfl, _, rfl, by rw [has_no (by omega) HA.out]; decide⟩
theorem contains_any (A : Option Addr) (ss : List ByteArray) (x : ByteArray) (cap : Nat) (w : World) (hs : Strs w A ss) (hl : ss.length ≤ maxLen) :
    Calls Tryd.prog 32 #[.slice A ss.length cap, .string x] w fun e w' => e = .returned (.bool (has ss x)) ∧ w = w' := by
  go_enter Tryd.func32, Tryd.ntmps32
  go_wp2_with fail
  refine (index_any _ ss x _ _ hs hl).mono ?_; rintro e w' ⟨rfl, i, rfl, hi⟩
  have HI := Lib.hid hi; clear hi
  go_wp2_with fail
  go_ret
  exact ⟨ret_bool HI.out, rfl⟩

/-! ### Letters, digits, tags -/
def isLet (b : UInt8) : Bool := (decide (97 ≤ b.toNat) && decide (b.toNat ≤ 122)) || (decide (65 ≤ b.toNat) && decide (b.toNat ≤ 90))
def isDig (b : UInt8) : Bool := decide (48 ≤ b.toNat) && decide (b.toNat ≤ 57)
def isWord (b : UInt8) : Bool := isLet b || isDig b || b == 95
theorem isLetter_any (b : UInt8) (n : Int) (hn : n = (b.toNat : Int)) (w : World) :
    Calls Tryd.prog 29 #[.int .u8 n] w fun e w' => e = .returned (.bool (isLet b)) ∧ w = w' := by
  subst hn
  have hb : b.toNat < 256 := b.toNat_lt
  by_cases h1 : 97 ≤ b.toNat
  · by_cases h2 : b.toNat ≤ 122
    · go_enter Tryd.func29, Tryd.ntmps29
      go_wp2
      go_ret
      exact ⟨ret_bool (by unfold isLet; rw [Bool.eq_iff_iff]; simp; omega), rfl⟩
    · go_enter Tryd.func29, Tryd.ntmps29
      go_wp2
      go_ret
      exact ⟨ret_bool (by unfold isLet; rw [Bool.eq_iff_iff]; simp; omega), rfl⟩
  · by_cases h3 : 65 ≤ b.toNat
    · go_enter Tryd.func29, Tryd.ntmps29
      go_wp2
      go_ret
      exact ⟨ret_bool (by unfold isLet; rw [Bool.eq_iff_iff]; simp; omega), rfl⟩
    · go_enter Tryd.func29, Tryd.ntmps29
      go_wp2
      go_ret
      exact ⟨ret_bool (by unfold isLet; simp; omega), rfl⟩
theorem isDigit_any (b : UInt8) (n : Int) (hn : n = (b.toNat : Int)) (w : World) :
    Calls Tryd.prog 28 #[.int .u8 n] w fun e w' => e = .returned (.bool (isDig b)) ∧ w = w' := by
  subst hn
  have hb : b.toNat < 256 := b.toNat_lt
  by_cases h1 : 48 ≤ b.toNat
  · go_enter Tryd.func28, Tryd.ntmps28
    go_wp2
    go_ret
    exact ⟨ret_bool (by unfold isDig; rw [Bool.eq_iff_iff]; simp; omega), rfl⟩
  · go_enter Tryd.func28, Tryd.ntmps28
    go_wp2
    go_ret
    exact ⟨ret_bool (by unfold isDig; simp; omega), rfl⟩
theorem isWordByte_any (b : UInt8) (n : Int) (hn : n = (b.toNat : Int)) (w : World) :
    Calls Tryd.prog 20 #[.int .u8 n] w fun e w' => e = .returned (.bool (isWord b)) ∧ w = w' := by
  subst hn
  go_enter Tryd.func20, Tryd.ntmps20
  go_wp2_with fail
  refine (isLetter_any b _ rfl _).mono ?_; rintro e w' ⟨rfl, rfl⟩
  cases hl : isLet b
  · have HL := Lib.hid hl; clear hl
    go_wp2_with fail
    refine (isDigit_any b _ rfl _).mono ?_; rintro e w' ⟨rfl, rfl⟩
    cases hd : isDig b
    · have HD := Lib.hid hd; clear hd
      by_cases hu : b = 95
      · have e0 : ((b.toNat : Int) == 95) = true := by subst hu; rfl
        have HE : Hid (isWord b = true) := Lib.hid <| by unfold isWord; simp [hu]
        clear hu
        go_wp2_with fail
        go_ret
        exact ⟨ret_bool HE.out.symm, rfl⟩
      · have e0 : ((b.toNat : Int) == 95) = false := by simp; intro h; exact hu (UInt8.toNat_inj.1 (by simpa using (by omega : b.toNat = 95)))
        have HE : Hid (isWord b = false) := Lib.hid <| by unfold isWord; rw [HL.out, HD.out]; simp [hu]
        clear hu
        go_wp2_with fail
        go_ret
        exact ⟨ret_bool HE.out.symm, rfl⟩
    · have HE : Hid (isWord b = true) := Lib.hid <| by unfold isWord; simp [hd]
      clear hd
      go_wp2_with fail
      go_ret
      exact ⟨ret_bool HE.out.symm, rfl⟩
  · have HE : Hid (isWord b = true) := Lib.hid <| by unfold isWord; simp [hl]
    clear hl
    go_wp2_with fail
    go_ret
    exact ⟨ret_bool HE.out.symm, rfl⟩

end Go.Proofs.YtbociefjibgklaaDoor
