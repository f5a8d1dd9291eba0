/-
  The reference Met; TagMet.
-/
import Derived.Test.YtbociefjibgklaaDoorTagM
import Derived.Test.YtbociefjibgklaaDoorSpSplit
import Derived.RegionCalls
import Derived.Deep.RegionWith
namespace Go.Proofs.YtbociefjibgklaaDoor
open Go.RowKit
set_option linter.unusedVariables false
set_option linter.unusedSimpArgs false

theorem has_keys (ss : List ByteArray) (x : ByteArray) : has ss x = (ss.map fun s => s.data.toList).contains x.data.toList := by
  unfold has
  rw [Bool.eq_iff_iff]
  simp only [List.any_eq_true, List.contains_iff_mem, List.mem_map, beq_iff_eq, Lib.toList_data]

/-- The setting lies in block b. -/
structure BoxAt (S : Stg) (b : Nat) (w : World) : Prop where
  lt : b < w.heap.size
  c0 : w.cell? ⟨b, 0, none⟩ = some (.string S.os)
  c1 : w.cell? ⟨b, 1, none⟩ = some (.string S.ar)
  c2 : w.cell? ⟨b, 2, none⟩ = some (.bool S.cgo)
  c3 : w.cell? ⟨b, 3, none⟩ = some (.string S.co)
  c4 : w.cell? ⟨b, 4, none⟩ = some (.slice S.A1 S.s1.length S.c1)
  c5 : w.cell? ⟨b, 5, none⟩ = some (.slice S.A2 S.s2.length S.c2)
  c6 : w.cell? ⟨b, 6, none⟩ = some (.slice S.A3 S.s3.length S.c3)
theorem BoxAt.below {S : Stg} {b : Nat} {w w' : World} (h : BoxAt S b w) (hb : Below w.heap.size w w') : BoxAt S b w' :=
  ⟨Nat.lt_of_lt_of_le h.lt hb.size, (hb.cell (p := ⟨b, 0, none⟩) h.lt).trans h.c0, (hb.cell (p := ⟨b, 1, none⟩) h.lt).trans h.c1, (hb.cell (p := ⟨b, 2, none⟩) h.lt).trans h.c2, (hb.cell (p := ⟨b, 3, none⟩) h.lt).trans h.c3,
    (hb.cell (p := ⟨b, 4, none⟩) h.lt).trans h.c4, (hb.cell (p := ⟨b, 5, none⟩) h.lt).trans h.c5, (hb.cell (p := ⟨b, 6, none⟩) h.lt).trans h.c6⟩
theorem BoxAt.new (S : Stg) (w : World) : BoxAt S w.heap.size (w.alloc (.cells S.cells 24)) := by
  have e : (w.alloc (.cells S.cells 24)).heap[w.heap.size]? = some (.cells S.cells 24 (0, 0)) := heap_alloc_new w _
  refine ⟨by simp, ?_, ?_, ?_, ?_, ?_, ?_, ?_⟩ <;> (rw [cell_of_row _ _ _ _ 24 (0, 0) e]; rfl)

def unixText : ByteArray := { data := ([97, 105, 120, 32, 97, 110, 100, 114, 111, 105, 100, 32, 100, 97, 114, 119, 105, 110, 32, 100, 114, 97, 103, 111, 110, 102, 108, 121, 32, 102, 114, 101, 101, 98, 115, 100, 32, 104, 117, 114, 100].append [32, 105, 108, 108, 117, 109, 111, 115, 32, 105, 111, 115, 32, 108, 105, 110, 117, 120, 32, 110, 101, 116, 98, 115, 100, 32, 111, 112, 101, 110, 98, 115, 100, 32, 115, 111, 108, 97, 114, 105, 115]).toArray }
def unixKeys : List (List UInt8) := spl 32 unixText.data.toList

theorem unixKeys_small : (unixKeys.all fun p => decide (p.length ≤ 100)) = true ∧ unixKeys.length ≤ 100 := by decide +kernel
theorem keys_small {ss : List ByteArray} (h : (ss.map fun s => s.data.toList) = unixKeys) : ∀ s ∈ ss, s.size ≤ maxLen := by
  intro s hs
  have hm : s.data.toList ∈ unixKeys := by rw [← h]; exact List.mem_map.2 ⟨s, hs, rfl⟩
  have := List.all_eq_true.1 unixKeys_small.1 _ hm
  simp only [decide_eq_true_eq] at this
  rw [size_list]; unfold maxLen; omega
theorem keys_len {ss : List ByteArray} (h : (ss.map fun s => s.data.toList) = unixKeys) : ss.length ≤ maxLen := by
  have e := congrArg List.length h
  rw [List.length_map] at e
  have := unixKeys_small.2
  unfold maxLen; omega

def MetPost (S : Stg) (t : ByteArray) (w : World) (e : Ending) (w' : World) : Prop := e = .returned (.bool (met unixKeys S t)) ∧ Below w.heap.size w w'

set_option maxRecDepth 100000 in
set_option maxHeartbeats 4000000 in
theorem met_any (S : Stg) (t : ByteArray) (w : World) (hS : S.Rd w) :
    Calls Tryd.prog 11 #[S.val, .string t] w (MetPost S t w) := by
  have hbox := Lib.hid (BoxAt.new S w)
  unfold Stg.val Stg.cells
  go_enter Tryd.func11, Tryd.ntmps11
  go_upto_region 1 with fail
  have HB := Lib.hid ((Below.refl w.heap.size w).alloc (Nat.le_refl _) (.cells S.cells 24))
  go_cut [5] from 6 (fun c wx => c = .bool (t.toList == S.os.toList || t.toList == S.ar.toList || t.toList == S.co.toList) ∧ Below w.heap.size w wx ∧ BoxAt S w.heap.size wx)
  case first =>
    cases ha : (t.toList == S.os.toList)
    · cases hb' : (t.toList == S.ar.toList)
      · go_wp2_with fail
        go_meet
        case rel => exact ⟨by simp only [ha, hb', Bool.false_or, Bool.true_or], HB.out, hbox.out⟩
      · go_wp2_with fail
        go_meet
        case rel => exact ⟨by simp only [ha, hb', Bool.false_or, Bool.true_or], HB.out, hbox.out⟩
    · go_wp2_with fail
      go_meet
      case rel => exact ⟨by simp only [ha, Bool.true_or], HB.out, hbox.out⟩
  case rest =>
    obtain ⟨rfl, hb0, hbx⟩ := hcut
    clear hbox HB
    have Hs1 := hS.h1.below hb0
    have Hs2 := hS.h2.below hb0
    have Hs3 := hS.h3.below hb0
    have l1 := hS.l1
    have l2 := hS.l2
    have l3 := hS.l3
    have HBX := Lib.hid hbx
    obtain ⟨hlt, c0, c1, c2, c3, c4, c5, c6⟩ := hbx
    clear hS
    generalize hH : w.heap.size = H at *
    have HH := Lib.hid hH; clear hH
    cases h2 : (t.toList == S.os.toList || t.toList == S.ar.toList || t.toList == S.co.toList)
    case true =>
      have H2 : Hid ((t.toList == S.os.toList || t.toList == S.ar.toList || t.toList == S.co.toList) = true) := Lib.hid (by first | exact h2 | (rw [Bool.and_comm]; exact h2)); clear h2
      go_wp2_with fail
      go_ret
      exact ⟨ret_bool (by unfold met; rw [H2.out]; simp only [Bool.true_or, Bool.or_true]), HH.out ▸ hb0⟩
    have H2 : Hid ((t.toList == S.os.toList || t.toList == S.ar.toList || t.toList == S.co.toList) = false) := Lib.hid (by first | exact h2 | (rw [Bool.and_comm]; exact h2)); clear h2
    go_upto_region 3 with fail
    go_cut [22] from 23 (fun c wx => c = .bool (t.toList == [99, 103, 111] && S.cgo) ∧ wx = wc)
    case first =>
      cases ha : (t.toList == [99, 103, 111])
      · go_wp2_with fail
        go_meet
        case rel => exact ⟨by simp only [ha, Bool.false_and, Bool.true_and], rfl⟩
      · go_wp2_with fail
        go_meet
        case rel => exact ⟨by simp only [ha, Bool.false_and, Bool.true_and], rfl⟩
    case rest =>
      obtain ⟨rfl, rfl⟩ := hcut
      cases h1 : (t.toList == [99, 103, 111] && S.cgo)
      case true =>
        have H1 : Hid ((S.cgo && t.toList == [99, 103, 111]) = true) := Lib.hid (by first | exact h1 | (rw [Bool.and_comm]; exact h1)); clear h1
        go_wp2_with fail
        go_ret
        exact ⟨ret_bool (by unfold met; rw [H1.out]; simp only [Bool.true_or, Bool.or_true]), HH.out ▸ hb0⟩
      have H1 : Hid ((S.cgo && t.toList == [99, 103, 111]) = false) := Lib.hid (by first | exact h1 | (rw [Bool.and_comm]; exact h1)); clear h1
      go_upto_region 5 with fail
      go_cut [29] from 30 (fun c wx => c = .bool (t.toList == [108, 105, 110, 117, 120] && S.os.toList == [97, 110, 100, 114, 111, 105, 100]) ∧ wx = wc)
      case first =>
        cases ha : (t.toList == [108, 105, 110, 117, 120])
        · go_wp2_with fail
          go_meet
          case rel => exact ⟨by simp only [ha, Bool.false_and, Bool.true_and], rfl⟩
        · go_wp2_with fail
          go_meet
          case rel => exact ⟨by simp only [ha, Bool.false_and, Bool.true_and], rfl⟩
      case rest =>
        obtain ⟨rfl, rfl⟩ := hcut
        cases h3 : (t.toList == [108, 105, 110, 117, 120] && S.os.toList == [97, 110, 100, 114, 111, 105, 100])
        case true =>
          have H3 : Hid ((S.os.toList == [97, 110, 100, 114, 111, 105, 100] && t.toList == [108, 105, 110, 117, 120]) = true) := Lib.hid (by first | exact h3 | (rw [Bool.and_comm]; exact h3)); clear h3
          go_wp2_with fail
          go_ret
          exact ⟨ret_bool (by unfold met; rw [H3.out]; simp only [Bool.true_or, Bool.or_true]), HH.out ▸ hb0⟩
        have H3 : Hid ((S.os.toList == [97, 110, 100, 114, 111, 105, 100] && t.toList == [108, 105, 110, 117, 120]) = false) := Lib.hid (by first | exact h3 | (rw [Bool.and_comm]; exact h3)); clear h3
        go_upto_region 6 with fail
        go_cut [29] from 30 (fun c wx => c = .bool (t.toList == [115, 111, 108, 97, 114, 105, 115] && S.os.toList == [105, 108, 108, 117, 109, 111, 115]) ∧ wx = wc)
        case first =>
          cases ha : (t.toList == [115, 111, 108, 97, 114, 105, 115])
          · go_wp2_with fail
            go_meet
            case rel => exact ⟨by simp only [ha, Bool.false_and, Bool.true_and], rfl⟩
          · go_wp2_with fail
            go_meet
            case rel => exact ⟨by simp only [ha, Bool.false_and, Bool.true_and], rfl⟩
        case rest =>
          obtain ⟨rfl, rfl⟩ := hcut
          cases h4 : (t.toList == [115, 111, 108, 97, 114, 105, 115] && S.os.toList == [105, 108, 108, 117, 109, 111, 115])
          case true =>
            have H4 : Hid ((S.os.toList == [105, 108, 108, 117, 109, 111, 115] && t.toList == [115, 111, 108, 97, 114, 105, 115]) = true) := Lib.hid (by first | exact h4 | (rw [Bool.and_comm]; exact h4)); clear h4
            go_wp2_with fail
            go_ret
            exact ⟨ret_bool (by unfold met; rw [H4.out]; simp only [Bool.true_or, Bool.or_true]), HH.out ▸ hb0⟩
          have H4 : Hid ((S.os.toList == [105, 108, 108, 117, 109, 111, 115] && t.toList == [115, 111, 108, 97, 114, 105, 115]) = false) := Lib.hid (by first | exact h4 | (rw [Bool.and_comm]; exact h4)); clear h4
          go_upto_region 7 with fail
          go_cut [29] from 30 (fun c wx => c = .bool (t.toList == [100, 97, 114, 119, 105, 110] && S.os.toList == [105, 111, 115]) ∧ wx = wc)
          case first =>
            cases ha : (t.toList == [100, 97, 114, 119, 105, 110])
            · go_wp2_with fail
              go_meet
              case rel => exact ⟨by simp only [ha, Bool.false_and, Bool.true_and], rfl⟩
            · go_wp2_with fail
              go_meet
              case rel => exact ⟨by simp only [ha, Bool.false_and, Bool.true_and], rfl⟩
          case rest =>
            obtain ⟨rfl, rfl⟩ := hcut
            cases h5 : (t.toList == [100, 97, 114, 119, 105, 110] && S.os.toList == [105, 111, 115])
            case true =>
              have H5 : Hid ((S.os.toList == [105, 111, 115] && t.toList == [100, 97, 114, 119, 105, 110]) = true) := Lib.hid (by first | exact h5 | (rw [Bool.and_comm]; exact h5)); clear h5
              go_wp2_with fail
              go_ret
              exact ⟨ret_bool (by unfold met; rw [H5.out]; simp only [Bool.true_or, Bool.or_true]), HH.out ▸ hb0⟩
            have H5 : Hid ((S.os.toList == [105, 111, 115] && t.toList == [100, 97, 114, 119, 105, 110]) = false) := Lib.hid (by first | exact h5 | (rw [Bool.and_comm]; exact h5)); clear h5
            go_upto_region 9 with fail
            go_cut [51] from 52 (fun c wx => c = .bool (t.toList == [117, 110, 105, 120] && unixKeys.contains S.os.data.toList) ∧ Below wc.heap.size wc wx)
            case first =>
              cases ha : (t.toList == [117, 110, 105, 120])
              · go_quiet (fail)
                go_wp2_with fail
                go_meet
                case rel => exact ⟨by simp only [ha, Bool.false_and], below_drewN (Below.refl _ _) _⟩
              · have hs32 : unixText.size ≤ 70368744177664 / 16 := by decide
                have HL := Lib.hid hlt; have HC := Lib.hid c0
                go_region_with (first
                  | (go_at_call 24; refine (split_any unixText 32 32 rfl hs32 _).mono ?_; rintro e w2 ⟨g, cap, ss, rfl, hp, how, hbl⟩; have c0x := (hbl.cell (p := ⟨H, 0, none⟩) HL.out).trans HC.out; have HP := Lib.hid hp; clear hp; have HO := Lib.hid how; clear how)
                  | (go_at_call 23; refine (has_any _ ss S.os _ _ (own_strs HO.out (keys_small HP.out)) (keys_len HP.out)).mono ?_; rintro e w3 ⟨rfl, rfl⟩))
                all_goals (go_wp2_with fail; go_meet; exact ⟨by rw [ha, Bool.true_and, has_keys, HP.out]; rfl, ((Below.refl _ _).drew).trans hbl⟩)
            case rest =>
              obtain ⟨rfl, hb9⟩ := hcut
              have B9 : Below H w wc := hb0.trans (hb9.mono (by have := hb0.size; rw [HH.out] at this; exact this))
              have hbx := HBX.out.below hb9
              have t1 := Hs1.below hb9
              have t2 := Hs2.below hb9
              have t3 := Hs3.below hb9
              clear c0 c1 c2 c3 c4 c5 c6 hlt Hs1 Hs2 Hs3 HBX hb9 hb0
              obtain ⟨hlt, c0, c1, c2, c3, c4, c5, c6⟩ := hbx
              cases h6 : (t.toList == [117, 110, 105, 120] && unixKeys.contains S.os.data.toList)
              case true =>
                have H6 : Hid ((t.toList == [117, 110, 105, 120] && unixKeys.contains S.os.data.toList) = true) := Lib.hid (by first | exact h6 | (rw [Bool.and_comm]; exact h6)); clear h6
                go_wp2_with fail
                go_ret
                exact ⟨ret_bool (by unfold met; rw [H6.out]; simp only [Bool.true_or, Bool.or_true]), HH.out ▸ B9⟩
              have H6 : Hid ((t.toList == [117, 110, 105, 120] && unixKeys.contains S.os.data.toList) = false) := Lib.hid (by first | exact h6 | (rw [Bool.and_comm]; exact h6)); clear h6
              cases g1 : has S.s1 t
              case true =>
                have G1 := Lib.hid g1; clear g1
                go_wp2_with fail
                refine (has_any _ S.s1 t _ _ t1 l1).mono ?_; rintro e w2 ⟨rfl, rfl⟩; rw [G1.out]
                go_wp2_with fail
                go_ret
                exact ⟨ret_bool (by unfold met; rw [G1.out]; simp only [Bool.true_or, Bool.or_true]), HH.out ▸ B9⟩
              have G1 := Lib.hid g1; clear g1
              cases g2 : has S.s2 t
              case true =>
                have G2 := Lib.hid g2; clear g2
                go_wp2_with fail
                refine (has_any _ S.s1 t _ _ t1 l1).mono ?_; rintro e w2 ⟨rfl, rfl⟩; rw [G1.out]
                go_wp2_with fail
                refine (has_any _ S.s2 t _ _ t2 l2).mono ?_; rintro e w2 ⟨rfl, rfl⟩; rw [G2.out]
                go_wp2_with fail
                go_ret
                exact ⟨ret_bool (by unfold met; rw [G2.out]; simp only [Bool.true_or, Bool.or_true]), HH.out ▸ B9⟩
              have G2 := Lib.hid g2; clear g2
              go_wp2_with fail
              refine (has_any _ S.s1 t _ _ t1 l1).mono ?_; rintro e w2 ⟨rfl, rfl⟩; rw [G1.out]
              go_wp2_with fail
              refine (has_any _ S.s2 t _ _ t2 l2).mono ?_; rintro e w2 ⟨rfl, rfl⟩; rw [G2.out]
              go_wp2_with fail
              refine (has_any _ S.s3 t _ _ t3 l3).mono ?_; rintro e w2 ⟨rfl, rfl⟩
              go_wp2_with fail
              go_ret
              exact ⟨ret_bool (by unfold met; rw [H1.out, H2.out, H3.out, H4.out, H5.out, H6.out, G1.out, G2.out]; simp only [Bool.false_or]), HH.out ▸ B9⟩

end Go.Proofs.YtbociefjibgklaaDoor
