/-
  Systems, machines, IsSystem, IsMachine, HasOneDot, zzCut.
-/
import Derived.Test.YtbociefjibgklaaDoorTagLaw
import Derived.Test.YtbociefjibgklaaDoorSplitG
namespace Go.Proofs.YtbociefjibgklaaDoor
open Go.RowKit
set_option linter.unusedVariables false
set_option linter.unusedSimpArgs false

def sysText : ByteArray := { data := ([97, 105, 120, 32, 97, 110, 100, 114, 111, 105, 100, 32, 100, 97, 114, 119, 105, 110, 32, 100, 114, 97, 103, 111, 110, 102, 108, 121, 32, 102, 114, 101, 101, 98, 115, 100, 32, 104, 117, 114, 100, 32, 105, 108, 108, 117, 109, 111, 115, 32, 105, 111, 115, 32, 106, 115, 32].append [108, 105, 110, 117, 120, 32, 110, 97, 99, 108, 32, 110, 101, 116, 98, 115, 100, 32, 111, 112, 101, 110, 98, 115, 100, 32, 112, 108, 97, 110, 57, 32, 115, 111, 108, 97, 114, 105, 115, 32, 119, 97, 115, 105, 112, 49, 32, 119, 105, 110, 100, 111, 119, 115, 32, 122, 111, 115]).toArray }
def macText : ByteArray := { data := (([51, 56, 54, 32, 97, 109, 100, 54, 52, 32, 97, 109, 100, 54, 52, 112, 51, 50, 32, 97, 114, 109, 32, 97, 114, 109, 98, 101, 32, 97, 114, 109, 54, 52, 32, 97, 114, 109, 54, 52].append [98, 101, 32, 108, 111, 111, 110, 103, 54, 52, 32, 109, 105, 112, 115, 32, 109, 105, 112, 115, 108, 101, 32, 109, 105, 112, 115, 54, 52, 32, 109, 105, 112, 115, 54, 52, 108, 101, 32, 109, 105]).append ([112, 115, 54, 52, 112, 51, 50, 32, 109, 105, 112, 115, 54, 52, 112, 51, 50, 108, 101, 32, 112, 112, 99, 32, 112, 112, 99, 54, 52, 32, 112, 112, 99, 54, 52, 108, 101, 32, 114, 105].append [115, 99, 118, 32, 114, 105, 115, 99, 118, 54, 52, 32, 115, 51, 57, 48, 32, 115, 51, 57, 48, 120, 32, 115, 112, 97, 114, 99, 32, 115, 112, 97, 114, 99, 54, 52, 32, 119, 97, 115, 109])).toArray }
def osKeys : List (List UInt8) := spl 32 sysText.data.toList
def arKeys : List (List UInt8) := spl 32 macText.data.toList

theorem osKeys_small : (osKeys.all fun p => decide (p.length ≤ 100)) = true ∧ osKeys.length ≤ 100 := by decide +kernel
theorem arKeys_small : (arKeys.all fun p => decide (p.length ≤ 100)) = true ∧ arKeys.length ≤ 100 := by decide +kernel
theorem few_small {ps : List (List UInt8)} {ss : List ByteArray} (hp : (ps.all fun p => decide (p.length ≤ 100)) = true ∧ ps.length ≤ 100) (h : (ss.map fun s => s.data.toList) = ps) : (∀ s ∈ ss, s.size ≤ maxLen) ∧ ss.length ≤ maxLen := by
  subst h
  refine ⟨fun s hs => ?_, ?_⟩
  · have := List.all_eq_true.1 hp.1 _ (List.mem_map.2 ⟨s, hs, rfl⟩)
    simp only [decide_eq_true_eq] at this
    rw [size_list]; unfold maxLen; omega
  · have := hp.2
    rw [List.length_map] at this
    unfold maxLen; omega

theorem isSystem_any (t : ByteArray) (w : World) :
    Calls Tryd.prog 26 #[.string t] w fun e w' => e = .returned (.bool (osKeys.contains t.data.toList)) ∧ Below w.heap.size w w' := by
  have hs : sysText.size ≤ 70368744177664 / 16 := by decide +kernel
  go_enter Tryd.func26, Tryd.ntmps26
  go_wp2_with fail
  refine (split_any sysText 32 32 rfl hs _).mono ?_; rintro e w2 ⟨g, cap, ss, rfl, hp, how, hbl⟩
  have hp' : (ss.map fun s => s.data.toList) = osKeys := hp
  have hx := few_small osKeys_small hp'
  have hst := own_strs how hx.1
  have hl := hx.2
  have HP := Lib.hid hp'
  clear hp hp' hx how
  go_wp2_with fail
  refine (has_any _ ss t _ _ hst hl).mono ?_; rintro e w3 ⟨rfl, rfl⟩
  go_wp2_with fail
  go_ret
  exact ⟨ret_bool (by rw [has_keys, HP.out]), hbl⟩
theorem isMachine_any (t : ByteArray) (w : World) :
    Calls Tryd.prog 25 #[.string t] w fun e w' => e = .returned (.bool (arKeys.contains t.data.toList)) ∧ Below w.heap.size w w' := by
  have hs : macText.size ≤ 70368744177664 / 16 := by decide +kernel
  go_enter Tryd.func25, Tryd.ntmps25
  go_wp2_with fail
  refine (split_any macText 32 32 rfl hs _).mono ?_; rintro e w2 ⟨g, cap, ss, rfl, hp, how, hbl⟩
  have hp' : (ss.map fun s => s.data.toList) = arKeys := hp
  have hx := few_small arKeys_small hp'
  have hst := own_strs how hx.1
  have hl := hx.2
  have HP := Lib.hid hp'
  clear hp hp' hx how
  go_wp2_with fail
  refine (has_any _ ss t _ _ hst hl).mono ?_; rintro e w3 ⟨rfl, rfl⟩
  go_wp2_with fail
  go_ret
  exact ⟨ret_bool (by rw [has_keys, HP.out]), hbl⟩

/-- HasOneDot: some Bool that only the name decides. -/
def oneDot (s : ByteArray) : Bool := decide ((spl 46 s.data.toList).length ≤ 2)
theorem hasOneDot_any (s : ByteArray) (hs : s.size ≤ 70368744177664 / 16) (w : World) :
    Calls Tryd.prog 14 #[.string s] w fun e w' => e = .returned (.bool (oneDot s)) ∧ Below w.heap.size w w' := by
  go_enter Tryd.func14, Tryd.ntmps14
  go_wp2_with fail
  refine (split_any s 46 46 rfl hs _).mono ?_; rintro e w2 ⟨g, cap, ss, rfl, hp, how, hbl⟩
  have HP := Lib.hid (congrArg List.length hp)
  clear hp how
  go_wp2_with fail
  go_ret
  exact ⟨ret_bool (by unfold oneDot; rw [← HP.out, List.length_map]; simp; omega), hbl⟩

/-- What zzCut returns: what stands ahead of the sign, and more that the caller drops. -/
def CutPost (s sep : ByteArray) (w : World) (e : Ending) (w' : World) : Prop :=
  Drawn w w' ∧ ∃ (a b : ByteArray) (f : Bool), e = .returned (.tuple #[.string a, .string b, .bool f]) ∧ a.data.toList = (splS sep.data.toList s.data.toList).headD []
theorem zzCut_any (s sep : ByteArray) (ws : s.size ≤ 70368744177664 / 16) (h0 : 0 < sep.size) (wp : sep.size ≤ 1000) (w : World) :
    Calls Tryd.prog 33 #[.string s, .string sep] w (CutPost s sep w) := by
  go_enter Tryd.func33, Tryd.ntmps33
  go_wp2_with fail
  refine (zzIndexG_any s sep (by omega) (by omega) _).mono ?_; rintro e w' ⟨rfl, rfl⟩
  cases hf : fi sep.data.toList s.data.toList with
  | none =>
    have HF : Hid (fidx s sep = -1) := Lib.hid <| by unfold fidx; rw [hf]
    have HP := Lib.hid (splS_none hf)
    clear hf
    rw [HF.out]
    go_wp2_with fail
    go_ret3
    exact ⟨Drawn.refl _, s, _, _, rfl, by rw [HP.out]; rfl⟩
  | some i =>
    have hb := (fi_bd hf).1
    have HF : Hid (fidx s sep = (i : Int)) := Lib.hid <| by unfold fidx; rw [hf]
    have HP := Lib.hid (splS_some (by rw [← size_list]; exact h0) hf)
    have hi : i + sep.size ≤ s.size := by rw [size_list s, size_list sep]; exact hb
    clear hf hb
    have hi2 : i ≤ s.size := by omega
    rw [HF.out]
    go_wp2_with fail
    go_quiet (fail)
    go_wp2_with fail
    go_ret3
    trace_state
    exact ⟨⟨_, rfl⟩, _, _, _, rfl, by rw [HP.out]; simp [Lib.extract_data]⟩

end Go.Proofs.YtbociefjibgklaaDoor
