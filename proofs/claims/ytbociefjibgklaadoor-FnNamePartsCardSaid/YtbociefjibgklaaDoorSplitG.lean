/-
  What zzSplit of package build returns.
-/
import Derived.Test.YtbociefjibgklaaDoorIdxG
import Derived.Test.YtbociefjibgklaaDoorSplS
import Derived.Test.YtbociefjibgklaaDoorOwn
namespace Go.Proofs.YtbociefjibgklaaDoor
open Go.RowKit
set_option linter.unusedVariables false
set_option linter.unusedSimpArgs false

set_option maxHeartbeats 1000000 in
theorem zzSplitG_any (s sep : ByteArray) (ws : s.size ≤ 70368744177664 / 16) (h0 : 0 < sep.size) (wp : sep.size ≤ 1000) (w : World) :
    Calls Tryd.prog 35 #[.string s, .string sep] w (SplitPost w (splS sep.data.toList s.data.toList)) := by
  obtain ⟨i0, hi, hz0, hz1, hz2⟩ := info_parts str_info
  go_enter Tryd.func35, Tryd.ntmps35
  go_wp2_with fail
  go_loopw [0, 5] (fun d v wr => ∃ (s' : ByteArray) (ps : List ByteArray), d = .string s' ∧ wr.ownsRow w.heap.size 9 1 v ps.length (sv ps) ∧ Below w.heap.size w wr ∧ ps.length + s'.size ≤ s.size ∧ (ps.map fun p => p.data.toList) ++ splS sep.data.toList s'.data.toList = splS sep.data.toList s.data.toList) (fun d _ _ => match d with | .string b => b.size | _ => 0)
  case atStart => exact ⟨s, [], rfl, World.ownsRow_nil _ _ _ _, Below.refl _ _, by simp, by simp⟩
  case round =>
    obtain ⟨s', ps, rfl, hown, hbel, hsz, heq⟩ := hrel
    have HEQ := Lib.hid heq; clear heq
    cases hf : fi sep.data.toList s'.data.toList with
    | none =>
      have HF : Hid (fidx s' sep = -1) := Lib.hid <| by unfold fidx; rw [hf]
      have HP := Lib.hid (splS_none hf)
      clear hf
      go_wp2_with fail
      refine (zzIndexG_any s' sep (by omega) (by omega) _).mono ?_; rintro e w' ⟨rfl, rfl⟩; rw [HF.out]
      go_wp2_with (at_builtin; refine wpList_append_any _ rfl (.tmp 12) (.tmp 14) 22 rfl w.heap.size 9 i0 (.string ByteArray.empty) 1 16 Tryd.underlying22 hi hz0 hz1 hz2 rfl (by decide) _ ps.length (sv ps) rfl (hown.alloc _) (wr.heap.size + 1) (some ⟨wr.heap.size, 0, none⟩) 1 1 [.string s'] rfl (reads_one _ _ _) (sv_one _) (by unfold maxLen; omega) (by omega) (by simp; exact Nat.le_succ_of_le hbel.size) ?_; intro v' w1 hown' hgrow hblk)
      have hown2 : w1.ownsRow w.heap.size 9 1 v' (ps ++ [s']).length (sv (ps ++ [s'])) := by
        have e : sv (ps ++ [s']) = sv ps ++ [.string s'] := by unfold sv; simp
        rw [e, List.length_append]; exact hown'
      have b1 : Below w.heap.size w w1 := (hbel.alloc hbel.size _).grown hgrow (by simp; exact Nat.le_succ_of_le hbel.size) (fun k hk => ((hown.alloc (.cells #[.string s'] 9)).lt k hk).1)
      obtain ⟨g, cap, rfl, hg⟩ := own_form hown2 (by simp)
      clear hown' hgrow hblk hown hbel
      go_wp2_with fail
      exact bodyPost_ret (v := .slice (some ⟨g, 0, none⟩) (ps ++ [s']).length cap) (by simp [results, Tryd.results35, go_sem]) rfl ⟨g, cap, ps ++ [s'], rfl, by rw [← HEQ.out, HP.out]; simp, hown2, b1⟩
    | some i =>
      have hb := (fi_bd hf).1
      have hi2 : i + sep.size ≤ s'.size := by simp only [size_list]; exact hb
      have HF : Hid (fidx s' sep = (i : Int)) := Lib.hid <| by unfold fidx; rw [hf]
      have HP := Lib.hid (splS_some (by rw [← size_list]; exact h0) hf)
      clear hf hb
      have hx1 : Hid ((s'.extract 0 i).data.toList = s'.data.toList.take i) := Lib.hid <| by rw [Lib.extract_data, List.drop_zero, Nat.sub_zero]
      have hx2 : Hid ((s'.extract (i + sep.size) s'.size).data.toList = s'.data.toList.drop (i + sep.data.toList.length)) := Lib.hid <| by
        rw [Lib.extract_data, List.take_of_length_le (by simp only [List.length_drop, size_list]; omega), ← size_list]
      go_wp2_with fail
      refine (zzIndexG_any s' sep (by omega) (by omega) _).mono ?_; rintro e w' ⟨rfl, rfl⟩; rw [HF.out]
      go_wp2_with (at_builtin; refine wpList_append_any _ rfl (.tmp 16) (.tmp 20) 22 rfl w.heap.size 9 i0 (.string ByteArray.empty) 1 16 Tryd.underlying22 hi hz0 hz1 hz2 rfl (by decide) _ ps.length (sv ps) rfl (hown.alloc _) (wr.heap.size + 1) (some ⟨wr.heap.size, 0, none⟩) 1 1 [.string (s'.extract 0 i)] rfl (reads_one _ _ _) (sv_one _) (by unfold maxLen; omega) (by omega) (by simp; exact Nat.le_succ_of_le hbel.size) ?_; intro v' w1 hown' hgrow hblk)
      have hown2 : w1.ownsRow w.heap.size 9 1 v' (ps ++ [s'.extract 0 i]).length (sv (ps ++ [s'.extract 0 i])) := by
        have e : sv (ps ++ [s'.extract 0 i]) = sv ps ++ [.string (s'.extract 0 i)] := by unfold sv; simp
        rw [e, List.length_append]; exact hown'
      have b1 : Below w.heap.size w w1 := (hbel.alloc hbel.size _).grown hgrow (by simp; exact Nat.le_succ_of_le hbel.size) (fun k hk => ((hown.alloc (.cells #[.string (s'.extract 0 i)] 9)).lt k hk).1)
      clear hown' hgrow hblk hown hbel
      go_wp2_with fail
      go_roundw
      case rel => exact ⟨s'.extract (i + sep.size) s'.size, ps ++ [s'.extract 0 i], rfl, hown2, b1, by rw [ByteArray.size_extract, List.length_append]; simp; omega, by rw [← HEQ.out, HP.out, hx2.out, List.map_append]; simp [hx1.out]⟩
      case measure =>
        show (s'.extract (i + sep.size) s'.size).size < s'.size
        rw [ByteArray.size_extract]; omega

end Go.Proofs.YtbociefjibgklaaDoor
