/-
  hasPathPrefix of package pkgpattern: its plain word and walk.
-/
import Derived.Test.YtgmoidngakiolaaStrs2
namespace Go.Proofs.Ytgmoidngakiolaa
open Go.RowKit
set_option linter.unusedVariables false
set_option linter.unusedSimpArgs false

theorem byte_ne {b c : UInt8} (h : b ≠ c) : ((b.toNat : Int) == (c.toNat : Int)) = false := by
  simp; intro e; exact h (UInt8.toNat_inj.1 (by omega))
theorem byte_eq {b c : UInt8} (h : b = c) : ((b.toNat : Int) == (c.toNat : Int)) = true := by
  simp [h]

def endSl (p : ByteArray) : Bool := decide (p.data.toList.getLast? = some 47)
def hpp (s p : ByteArray) : Bool := decide (s.data.toList = p.data.toList) || (endSl p && beg s p) || (!endSl p && decide (p.data.toList ++ [47] <+: s.data.toList))

theorem hpp_eq {s p : ByteArray} (h : s.size = p.size) : (s.toList == p.toList) = hpp s p := by
  rw [Lib.toList_data, Lib.toList_data, Bool.eq_iff_iff]
  unfold hpp beg
  simp only [size_list] at h
  simp only [beq_iff_eq, Bool.or_eq_true, Bool.and_eq_true, decide_eq_true_eq]
  constructor
  · intro e; exact .inl (.inl e)
  · rintro ((e | ⟨_, e⟩) | ⟨_, e⟩)
    · exact e
    · exact (e.eq_of_length h.symm).symm
    · have := e.length_le; rw [List.length_append, List.length_singleton] at this; omega
theorem hpp_lt {s p : ByteArray} (h : s.size < p.size) : hpp s p = false := by
  unfold hpp beg
  simp only [size_list] at h
  rw [Bool.eq_false_iff]
  simp only [ne_eq, Bool.or_eq_true, Bool.and_eq_true, decide_eq_true_eq]
  rintro ((e | ⟨_, e⟩) | ⟨_, e⟩)
  · rw [e] at h; omega
  · have := e.length_le; omega
  · have := e.length_le; rw [List.length_append, List.length_singleton] at this; omega
theorem hpp_sl {s p : ByteArray} (h : p.size < s.size) (he : endSl p = true) : beg s p = hpp s p := by
  unfold hpp
  rw [he]
  have : ¬ s.data.toList = p.data.toList := by intro e; simp only [size_list] at h; rw [e] at h; omega
  simp [this]
theorem hpp_no {s p : ByteArray} (h : p.size < s.size) (he : endSl p = false) (hb : s[p.size] ≠ 47) : hpp s p = false := by
  unfold hpp
  rw [he]
  have h1 : ¬ s.data.toList = p.data.toList := by intro e; simp only [size_list] at h; rw [e] at h; omega
  have h2 : ¬ p.data.toList ++ [47] <+: s.data.toList := by
    rintro ⟨r, e⟩
    apply hb
    have e' : s[p.size] = s.data.toList[p.size]'(by simpa using h) := rfl
    rw [e']
    simp only [← e]
    rw [List.getElem_append_left (by simp), List.getElem_append_right (by simp)]
    simp
  simp [h1, h2]
theorem hpp_yes {s p : ByteArray} (h : p.size < s.size) (he : endSl p = false) (hb : s[p.size] = 47) : ((s.extract 0 p.size).toList == p.toList) = hpp s p := by
  rw [beg_ext]
  unfold hpp
  rw [he]
  have h1 : ¬ s.data.toList = p.data.toList := by intro e; simp only [size_list] at h; rw [e] at h; omega
  have h2 : p.data.toList ++ [47] <+: s.data.toList ↔ p.data.toList <+: s.data.toList := by
    constructor
    · exact fun e => (List.prefix_append _ _).trans e
    · intro e
      have e1 := List.prefix_iff_eq_take.1 e
      have e' : s[p.size] = s.data.toList[p.size]'(by simpa using h) := rfl
      rw [e'] at hb
      have h3 : s.data.toList.take (p.size + 1) = p.data.toList ++ [47] := by
        rw [take_snoc_l _ _ (by simpa using h), hb]
        have e2 : p.data.toList.length = p.size := by simp
        rw [← e2, ← e1]
      rw [← h3]
      exact List.take_prefix _ _
  simp [h1, h2, beg]
theorem endSl_nil {p : ByteArray} (h : p.toList.isEmpty = true) : endSl p = false := by
  unfold endSl
  rw [Lib.toList_data] at h
  have : p.data.toList = [] := by simpa using h
  simp [this]
theorem endSl_last {p : ByteArray} (h : 0 < p.size) : endSl p = (p[p.size - 1] == 47) := by
  unfold endSl
  have e : p.data.toList.getLast? = some (p[p.size - 1]) := by
    rw [List.getLast?_eq_getElem?]
    have e2 : p.data.toList.length = p.size := by simp
    rw [e2, List.getElem?_eq_getElem (by rw [e2]; omega)]
    rfl
  rw [e, Bool.eq_iff_iff]
  simp

theorem hpp_any (s p : ByteArray) (ws : s.size ≤ maxLen) (wp : p.size ≤ maxLen) (w : World) :
    Calls Try.prog 27 #[.string s, .string p] w fun e w' => e = .returned (.bool (hpp s p)) ∧ w = w' := by
  have ms := ws
  have mp := wp
  unfold maxLen at ws wp
  rcases Nat.lt_trichotomy s.size p.size with hlt | heq | hgt
  · have HE := Lib.hid (hpp_lt hlt)
    have e0 : ((s.size : Int) == (p.size : Int)) = false := by simp; omega
    go_enter Try.func27, Try.ntmps27
    go_wp2_with fail
    go_ret
    exact ⟨ret_bool HE.out.symm, rfl⟩
  · have HE := Lib.hid (hpp_eq heq)
    have e0 : ((s.size : Int) == (p.size : Int)) = true := by simp; omega
    have hle : s.size ≤ p.size := by omega
    clear heq
    go_enter Try.func27, Try.ntmps27
    go_wp2_with fail
    go_ret
    exact ⟨ret_bool HE.out, rfl⟩
  · have e0 : ((s.size : Int) == (p.size : Int)) = false := by simp; omega
    cases hem : p.toList.isEmpty
    · have hp : 0 < p.size := by
        rw [Lib.toList_data] at hem
        rw [size_list]
        cases hq : p.data.toList with
        | nil => rw [hq] at hem; simp at hem
        | cons a r => simp
      cases hsl : p[p.size - 1] == 47
      · have HS : Hid (endSl p = false) := Lib.hid <| by rw [endSl_last hp, hsl]
        have e1 : ((p[p.size - 1].toNat : Int) == 47) = false := byte_ne (by simpa using hsl)
        clear hsl
        cases hat : s[p.size] == 47
        · have HE := Lib.hid (hpp_no hgt HS.out (by simpa using hat))
          have e2 : ((s[p.size].toNat : Int) == 47) = false := byte_ne (by simpa using hat)
          clear hat
          go_enter Try.func27, Try.ntmps27
          go_wp2_with fail
          go_ret
          exact ⟨ret_bool HE.out.symm, rfl⟩
        · have HE := Lib.hid (hpp_yes hgt HS.out (by simpa using hat))
          have e2 : ((s[p.size].toNat : Int) == 47) = true := byte_eq (by simpa using hat)
          clear hat
          go_enter Try.func27, Try.ntmps27
          go_wp2_with fail
          go_ret
          exact ⟨ret_bool HE.out, rfl⟩
      · have HS : Hid (endSl p = true) := Lib.hid <| by rw [endSl_last hp, hsl]
        have HE := Lib.hid (hpp_sl hgt HS.out)
        have e1 : ((p[p.size - 1].toNat : Int) == 47) = true := by
          exact byte_eq (by simpa using hsl)
        clear hsl
        go_enter Try.func27, Try.ntmps27
        go_wp2_with (go_at_call 25; refine (strHasPrefix_any _ _ ms mp _).mono ?_; rintro e w' ⟨rfl, rfl⟩; rw [HE.out])
        go_ret
        exact ⟨rfl, rfl⟩
    · have HS := Lib.hid (endSl_nil hem)
      cases hat : s[p.size] == 47
      · have HE := Lib.hid (hpp_no hgt HS.out (by simpa using hat))
        have e2 : ((s[p.size].toNat : Int) == 47) = false := byte_ne (by simpa using hat)
        clear hat
        go_enter Try.func27, Try.ntmps27
        go_wp2_with fail
        go_ret
        exact ⟨ret_bool HE.out.symm, rfl⟩
      · have HE := Lib.hid (hpp_yes hgt HS.out (by simpa using hat))
        have e2 : ((s[p.size].toNat : Int) == 47) = true := byte_eq (by simpa using hat)
        clear hat
        go_enter Try.func27, Try.ntmps27
        go_wp2_with fail
        go_ret
        exact ⟨ret_bool HE.out, rfl⟩

end Go.Proofs.Ytgmoidngakiolaa
