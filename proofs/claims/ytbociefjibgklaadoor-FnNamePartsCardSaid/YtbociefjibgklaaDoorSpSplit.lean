/-
  What the reference Split returns.
-/
import Derived.Test.YtbociefjibgklaaDoorTagA
import Derived.Test.YtbociefjibgklaaDoorSpl
import Derived.Test.YtbociefjibgklaaDoorOwn
import Derived.Test.YtbociefjibgklaaDoorByt
namespace Go.Proofs.YtbociefjibgklaaDoor
open Go.RowKit
set_option linter.unusedVariables false
set_option linter.unusedSimpArgs false

set_option maxHeartbeats 2000000 in
theorem split_any (s : ByteArray) (n : Int) (c : UInt8) (hn : n = (c.toNat : Int)) (ws : s.size ≤ 70368744177664 / 16) (w : World) :
    Calls Tryd.prog 24 #[.string s, .int .u8 n] w (SplitPost w (spl c s.data.toList)) := by
  subst hn
  obtain ⟨i0, hi, hz0, hz1, hz2⟩ := info_parts str_info
  have hown0 := own_none w 9
  go_enter Tryd.func24, Tryd.ntmps24
  go_wp2_with fail
  go_loopw [5, 6, 11] (fun v fr i wr => ∃ (f k : Nat) (ps : List ByteArray), f ≤ k ∧ k ≤ s.size ∧ ps.length ≤ f ∧ i = .int .i64 k ∧ fr = .int .i64 f ∧ wr.ownsRow w.heap.size 9 1 v ps.length (sv ps) ∧ Below w.heap.size w wr ∧ FA [c] (s.data.toList.drop f) (k - f) ∧ (ps.map fun p => p.data.toList) ++ spl c (s.data.toList.drop f) = spl c s.data.toList) (fun _ _ i _ => s.size - (intOf i).toNat)
  case atStart => exact ⟨0, 0, [], by omega, by omega, by simp, rfl, rfl, hown0, (Below.refl _ _).alloc (Nat.le_refl _) _, FA.zero _ _, by simp⟩
  case round =>
    obtain ⟨f, k, ps, hfk, hks, hpf, rfl, rfl, hown, hbel, hfa, heq⟩ := hrel
    have HEQ := Lib.hid heq; clear heq
    have HFA := Lib.hid hfa; clear hfa
    by_cases hlt : k < s.size
    · have hdr : s.data.toList.drop k = s[k] :: s.data.toList.drop (k + 1) := by
        have e : s[k] = s.data.toList[k]'(by simpa using hlt) := rfl
        rw [e]; exact List.drop_eq_getElem_cons (by simpa using hlt)
      have hdd : (s.data.toList.drop f).drop (k - f) = s.data.toList.drop k := by rw [List.drop_drop]; congr 1; omega
      by_cases hb : s[k] = c
      · have e0 : ((s[k].toNat : Int) == (c.toNat : Int)) = true := byte_eq hb
        have hyes := HFA.out.yes (by rw [hdd, hdr, hb]; exact ⟨_, rfl⟩)
        have HP := Lib.hid (spl_some hyes)
        have HX : Hid ((s.extract f k).data.toList = (s.data.toList.drop f).take (k - f)) := Lib.hid <| by rw [Lib.extract_data]
        have HD : Hid ((s.data.toList.drop f).drop (k - f + 1) = s.data.toList.drop (k + 1)) := Lib.hid <| by rw [List.drop_drop]; congr 1; omega
        clear hb hyes hdr hdd
        go_wp2_with (at_builtin; refine wpList_append_any _ rfl (.tmp 19) (.tmp 24) 22 rfl w.heap.size 9 i0 (.string ByteArray.empty) 1 16 Tryd.underlying22 hi hz0 hz1 hz2 rfl (by decide) _ ps.length (sv ps) rfl (hown.alloc _) (wr.heap.size + 1) (some ⟨wr.heap.size, 0, none⟩) 1 1 [.string (s.extract f k)] rfl (reads_one _ _ _) (sv_one _) (by unfold maxLen; omega) (by omega) (by simp; exact Nat.le_succ_of_le hbel.size) ?_; intro v' w1 hown' hgrow hblk)
        have hown2 : w1.ownsRow w.heap.size 9 1 v' (ps ++ [s.extract f k]).length (sv (ps ++ [s.extract f k])) := by
          have e : sv (ps ++ [s.extract f k]) = sv ps ++ [.string (s.extract f k)] := by unfold sv; simp
          rw [e, List.length_append]; exact hown'
        have b1 : Below w.heap.size w w1 := (hbel.alloc hbel.size _).grown hgrow (by simp; exact Nat.le_succ_of_le hbel.size) (fun k hk => ((hown.alloc (.cells #[.string (s.extract f k)] 9)).lt k hk).1)
        clear hown' hgrow hblk hown hbel
        go_wp2_with fail
        go_roundw
        case rel => exact ⟨k + 1, k + 1, ps ++ [s.extract f k], by omega, by omega, by simp; omega, by go_num, by go_num, hown2, b1, by rw [Nat.sub_self]; exact FA.zero _ _, by rw [← HEQ.out, HP.out, HD.out, List.map_append]; simp [HX.out]⟩
        case measure => simp [intOf]; omega
      · have e0 : ((s[k].toNat : Int) == (c.toNat : Int)) = false := byte_ne hb
        have HN := Lib.hid (HFA.out.next (by rw [List.length_drop, ← size_list]; omega) (by rw [hdd, hdr]; simp; exact fun e => hb e.symm))
        clear hb hdr hdd
        go_wp2_with fail
        go_roundw
        case rel => exact ⟨f, k + 1, ps, by omega, by omega, by omega, by go_num, rfl, hown, hbel, by rw [show k + 1 - f = k - f + 1 by omega]; exact HN.out, HEQ.out⟩
        case measure => simp [intOf]; omega
    · have HP := Lib.hid (spl_none (HFA.out.no (by rw [List.length_drop, ← size_list]; omega) (by simp)))
      have HX : Hid ((s.extract f s.size).data.toList = s.data.toList.drop f) := Lib.hid <| by
        rw [Lib.extract_data, List.take_of_length_le (by rw [List.length_drop, size_list]; omega)]
      go_wp2_with (at_builtin; refine wpList_append_any _ rfl (.tmp 29) (.tmp 33) 22 rfl w.heap.size 9 i0 (.string ByteArray.empty) 1 16 Tryd.underlying22 hi hz0 hz1 hz2 rfl (by decide) _ ps.length (sv ps) rfl (hown.alloc _) (wr.heap.size + 1) (some ⟨wr.heap.size, 0, none⟩) 1 1 [.string (s.extract f s.size)] rfl (reads_one _ _ _) (sv_one _) (by unfold maxLen; omega) (by omega) (by simp; exact Nat.le_succ_of_le hbel.size) ?_; intro v' w1 hown' hgrow hblk)
      have hown2 : w1.ownsRow w.heap.size 9 1 v' (ps ++ [s.extract f s.size]).length (sv (ps ++ [s.extract f s.size])) := by
        have e : sv (ps ++ [s.extract f s.size]) = sv ps ++ [.string (s.extract f s.size)] := by unfold sv; simp
        rw [e, List.length_append]; exact hown'
      have b1 : Below w.heap.size w w1 := (hbel.alloc hbel.size _).grown hgrow (by simp; exact Nat.le_succ_of_le hbel.size) (fun k hk => ((hown.alloc (.cells #[.string (s.extract f s.size)] 9)).lt k hk).1)
      obtain ⟨g, cap, rfl, hg⟩ := own_form hown2 (by simp)
      clear hown' hgrow hblk hown hbel
      go_wp2_with fail
      exact bodyPost_ret (v := .slice (some ⟨g, 0, none⟩) (ps ++ [s.extract f s.size]).length cap) (by simp [results, Tryd.results24, go_sem]) rfl ⟨g, cap, ps ++ [s.extract f s.size], rfl, by rw [← HEQ.out, HP.out, List.map_append, List.map_singleton, HX.out], hown2, b1⟩

end Go.Proofs.YtbociefjibgklaaDoor
