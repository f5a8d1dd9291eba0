/-
  The walk of the law FnImportsWrong.
-/
import Derived.Test.YtgplcbobomainaaDoorLwE
namespace Go.Proofs.YtgplcbobomainaaDoor
open Go.RowKit
set_option linter.unusedVariables false
set_option linter.unusedSimpArgs false

/-! ### FnImportsWrong -/
theorem com_nz {L : List (List UInt8)} (h : L.all lineOk = true) : ∀ b ∈ comL L, b ≠ 0 := by
  induction L with
  | nil => intro b hb; cases hb
  | cons s t ih =>
    rw [List.all_cons, Bool.and_eq_true] at h
    intro b hb
    unfold comL at hb
    rcases List.mem_append.1 hb with hb | hb
    · split at hb
      · rw [List.mem_singleton] at hb; subst hb; decide
      · rcases List.mem_append.1 hb with hb | hb
        · rcases List.mem_append.1 hb with hb | hb
          · exact (show ∀ b ∈ ([47, 47, 32, 45, 32] : List UInt8), b ≠ 0 by decide) b hb
          · have := List.all_eq_true.1 h.1 b hb
            simp at this
            exact this.1.1.1
        · rw [List.mem_singleton] at hb; subst hb; decide
    · exact ih h.2 b hb
theorem word_id {b : UInt8} (h : isWord b = true) : isId b = true ∧ b.toNat ≤ 127 := by
  unfold isWord isLet isDig at h
  unfold isId
  simp at h
  rcases h with (h | h) | h
  · rcases h with h | h
    · exact ⟨by simp; omega, by omega⟩
    · exact ⟨by simp; omega, by omega⟩
  · exact ⟨by simp; omega, by omega⟩
  · subst h; decide
def pkgS : ByteArray := ⟨#[112, 97, 99, 107, 97, 103, 101]⟩
theorem name_parts {wd : ByteArray} (h : isName wd = true) : ∃ c r, wd.data.toList = c :: r ∧ ∀ x ∈ c :: r, isId x = true ∧ x.toNat ≤ 127 := by
  unfold isName at h
  simp only [Bool.and_eq_true] at h
  obtain ⟨h1, h2, h3⟩ := h
  cases hl : wd.data.toList with
  | nil => rw [Lib.toList_data, hl] at h2; simp at h2
  | cons c r => exact ⟨c, r, rfl, fun x hx => word_id (List.all_eq_true.1 h1 x (by rw [hl]; exact hx))⟩
theorem wrong_read {ss : List ByteArray} {wd s : ByteArray} (h1 : ss.all lnB = true) (h2 : isName wd = true) (h3 : beg wd pkgS = false) (h4 : asc s = true) :
    readIm true (comB ss ++ wd ++ ⟨#[32]⟩ ++ s).data.toList = none ∧ ∃ L, readIm false (comB ss ++ wd ++ ⟨#[32]⟩ ++ s).data.toList = some ((comB ss ++ wd ++ ⟨#[32]⟩ ++ s).data.toList, L) := by
  obtain ⟨c, r, hw, hid⟩ := name_parts h2
  have e : (comB ss ++ wd ++ ⟨#[32]⟩ ++ s).data.toList = comL (dl ss) ++ (c :: r) ++ 32 :: s.data.toList := by
    rw [← hw]; unfold comB; simp [ByteArray.data_append, BA]
  have hp : ¬ packageK <+: (c :: r) := by
    unfold beg at h3
    rw [decide_eq_false_iff_not, hw] at h3
    exact h3
  rw [e]
  refine wrong_ok (gap_com (lines_ok h1)) (stp_id (hid c (by simp)).1) hp (by decide) ?_
  intro b hb
  rcases List.mem_append.1 hb with hb | hb
  · rcases List.mem_append.1 hb with hb | hb
    · exact ⟨com_nz (lines_ok h1) b hb, com_ascii (lines_ok h1) b hb⟩
    · exact ⟨id_ne (hid b hb).1, (hid b hb).2⟩
  · rcases List.mem_cons.1 hb with rfl | hb
    · decide
    · have := ascB_bd (List.all_eq_true.1 h4 b hb)
      exact ⟨by rintro rfl; exact absurd this.1 (by decide), this.2⟩

theorem four_size (cb wd s : ByteArray) : cb.size + wd.size + 1 + s.size = (cb ++ wd ++ ⟨#[32]⟩ ++ s).data.toList.length := by
  have h1 : (⟨#[32]⟩ : ByteArray).size = 1 := by decide
  rw [← size_list, ByteArray.size_append, ByteArray.size_append, ByteArray.size_append, h1]
set_option maxRecDepth 100000 in
set_option maxHeartbeats 1000000 in
theorem importsWrongArgs {E : EB} (B : Option Addr) (ss : List ByteArray) (cap2 : Nat) (wd s : ByteArray) (most : Int) (w : World) (hs : Strs w B ss) (cs : ss.length ≤ maxLen) (wwd : wd.size ≤ maxLen) (ws : s.size ≤ maxLen) (h1 : IntKind.i64.wrap most = most)
    (bs : (ss.map fun s => s.size + 1).sum ≤ 1048576) (bw : wd.size ≤ 1048576) (b2 : s.size ≤ 1048576) (he : OkI E w) :
    Calls Tryd.prog 6 #[.slice B ss.length cap2, .string wd, .string s, .int .i64 most] w fun e w' => e = .returned (.bool true) ∧ Below w.heap.size w w' := by
  have ms := ws
  have mw := wwd
  unfold maxLen at ws wwd cs
  have hfit := Lib.hid (fits_of bs)
  have hcom := com_small bs
  clear bs
  go_enter Tryd.func6, Tryd.ntmps6
  go_wp2_with fail
  refine (fits2_any B ss cap2 _ hs (by unfold maxLen; omega)).mono ?_; rintro e w' ⟨rfl, rfl⟩; rw [hfit.out]
  go_wp2_with fail
  refine (areLines_any B ss cap2 _ hs (by unfold maxLen; omega)).mono ?_; rintro e w' ⟨rfl, rfl⟩
  cases hln : ss.all lnB
  · clear hln hs
    go_wp2_with fail
    refine (readWorks_any he).mono ?_; rintro e w3 ⟨rfl, b3⟩
    go_wp2_with fail
    go_ret
    exact ⟨rfl, b3⟩
  have HLN := Lib.hid hln
  clear hln
  cases hnm : isName wd
  · have HNM := Lib.hid hnm
    clear hnm hs
    go_wp2_with fail
    refine (isName_any wd mw _).mono ?_; rintro e w' ⟨rfl, rfl⟩; rw [HNM.out]
    go_wp2_with fail
    refine (readWorks_any he).mono ?_; rintro e w3 ⟨rfl, b3⟩
    go_wp2_with fail
    go_ret
    exact ⟨rfl, b3⟩
  have HNM := Lib.hid hnm
  clear hnm
  cases hbg : beg wd pkgS
  case true =>
    have HBG := Lib.hid hbg
    clear hbg hs
    go_wp2_with fail
    refine (isName_any wd mw _).mono ?_; rintro e w' ⟨rfl, rfl⟩; rw [HNM.out]
    go_wp2_with fail
    refine (begins_any wd pkgS mw (by decide) _).mono ?_; rintro e w' ⟨rfl, rfl⟩; rw [HBG.out]
    go_wp2_with fail
    refine (readWorks_any he).mono ?_; rintro e w3 ⟨rfl, b3⟩
    go_wp2_with fail
    go_ret
    exact ⟨rfl, b3⟩
  have HBG := Lib.hid hbg
  clear hbg
  cases ha : asc s
  · have HA := Lib.hid ha
    clear ha hs
    go_wp2_with fail
    refine (isName_any wd mw _).mono ?_; rintro e w' ⟨rfl, rfl⟩; rw [HNM.out]
    go_wp2_with fail
    refine (begins_any wd pkgS mw (by decide) _).mono ?_; rintro e w' ⟨rfl, rfl⟩; rw [HBG.out]
    go_wp2_with fail
    refine (isASCII_any s ms _).mono ?_; rintro e w' ⟨rfl, rfl⟩; rw [HA.out]
    go_wp2_with fail
    refine (readWorks_any he).mono ?_; rintro e w3 ⟨rfl, b3⟩
    go_wp2_with fail
    go_ret
    exact ⟨rfl, b3⟩
  have HA := Lib.hid ha
  have HFIN := Lib.hid (wrong_read HLN.out HNM.out HBG.out ha)
  clear ha
  go_wp2_with fail
  refine (isName_any wd mw _).mono ?_; rintro e w' ⟨rfl, rfl⟩; rw [HNM.out]
  go_wp2_with fail
  refine (begins_any wd pkgS mw (by decide) _).mono ?_; rintro e w' ⟨rfl, rfl⟩; rw [HBG.out]
  go_wp2_with fail
  refine (isASCII_any s ms _).mono ?_; rintro e w' ⟨rfl, rfl⟩; rw [HA.out]
  go_wp2_with fail
  refine (comments_any B ss cap2 _ hs (by unfold maxLen; omega) (by omega)).mono ?_; rintro e w' ⟨rfl, rfl⟩
  clear hs
  have kb := fun (w : World) (s : ByteArray) => Lib.run_convert_string_bytes (P := Tryd.prog) w 9 22 5 s Tryd.underlying9 Tryd.underlying22 Tryd.underlying5
  generalize comB ss = cb at *
  have r1 : cb.size + wd.size ≤ 9223372036854775807 := by omega
  have r2 : cb.size + wd.size + 1 ≤ 9223372036854775807 := by omega
  have r3 : cb.size + wd.size + 1 + s.size ≤ 9223372036854775807 := by omega
  go_wp2_with fail
  have hn := four_size cb wd s
  have hn32 : cb.size + wd.size + 1 + s.size ≤ 4294967296 := by omega
  have h7 := imp_call (E := E) (w := w) (s := cb ++ wd ++ ⟨#[32]⟩ ++ s) (c := grownCap w (cb.size + wd.size + 1 + s.size) 0 5) most true h1 hn hn32 he
  refine h7.mono ?_; clear h7; rintro e w1 ⟨A1, cap1, B1, cap1', bb, L, ok, rfl, q1⟩
  obtain ⟨rfl, rfl⟩ : ok = false ∧ bb = [] := by
    rcases q1.res with ⟨e1, e2⟩ | ⟨e1, _, e3, _⟩
    · rw [HFIN.out.1] at e2; cases e2
    · exact ⟨e1, e3⟩
  have he1 := he.below q1.below
  have hB1 := q1.below
  clear q1 he
  go_wp2_with fail
  have h8 := imp_call (E := E) (w := w1) (s := cb ++ wd ++ ⟨#[32]⟩ ++ s) (n := cb.size + (wd.size + (s.size + 1))) (c := grownCap w1 (cb.size + (wd.size + (s.size + 1))) 0 5) most false h1 (by rw [← hn]; omega) (by omega) he1
  refine h8.mono ?_; clear h8; rintro e w2 ⟨A2, cap2', B2, cap2'', bb', L', ok', rfl, q2⟩
  obtain ⟨rfl, hbb⟩ : ok' = true ∧ bb' = (cb ++ wd ++ ⟨#[32]⟩ ++ s).data.toList := by
    obtain ⟨L2, hL2⟩ := HFIN.out.2
    rcases q2.res with ⟨e1, e2⟩ | ⟨e1, e2, _⟩
    · rw [hL2] at e2; injection e2 with e2; injection e2 with e2 _; exact ⟨e1, e2.symm⟩
    · rw [hL2] at e2; cases e2
  have HBB := Lib.hid hbb
  clear hbb
  have he2 := he1.below q2.below
  have hB2 := hB1.trans (q2.below.mono hB1.size)
  have t2 := q2.bts
  clear q2 he1 hB1 HFIN
  go_wp2_with fail
  refine (readWorks_any he2).mono ?_; rintro e w3 ⟨rfl, b3⟩
  have k2 := (t2.below b3).conv (P := Tryd.prog) (dst := 9) Tryd.underlying22 Tryd.underlying5 Tryd.underlying9 cap2'
  have ebb : (⟨bb'.toArray⟩ : ByteArray) = cb ++ wd ++ ⟨#[32]⟩ ++ s := by rw [HBB.out]
  rw [ebb] at k2
  have hB3 := hB2.trans (b3.mono hB2.size)
  clear t2 b3 hB2 he2 ebb HBB kb hn hn32
  go_wp2_with fail
  go_ret
  exact ⟨ret_bool (by simp), hB3⟩
end Go.Proofs.YtgplcbobomainaaDoor
