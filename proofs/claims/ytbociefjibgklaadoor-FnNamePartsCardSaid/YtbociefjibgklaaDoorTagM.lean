/-
  matchTag of go/build.
-/
import Derived.Test.YtbociefjibgklaaDoorTagB
import Derived.Test.YtbociefjibgklaaDoorSets
import Derived.Deep.Cut
import Derived.Deep.DeepCutAuto
namespace Go.Proofs.YtbociefjibgklaaDoor
open Go.RowKit
set_option linter.unusedVariables false
set_option linter.unusedSimpArgs false

/-- A tag is met: the system, the machine, the compiler; cgo; the kin of the system; unix; one of the tags. -/
def met (unix : List (List UInt8)) (S : Stg) (t : ByteArray) : Bool :=
  (S.cgo && t.toList == [99, 103, 111]) ||
  ((t.toList == S.os.toList || t.toList == S.ar.toList || t.toList == S.co.toList) ||
  ((S.os.toList == [97, 110, 100, 114, 111, 105, 100] && t.toList == [108, 105, 110, 117, 120]) ||
  ((S.os.toList == [105, 108, 108, 117, 109, 111, 115] && t.toList == [115, 111, 108, 97, 114, 105, 115]) ||
  ((S.os.toList == [105, 111, 115] && t.toList == [100, 97, 114, 119, 105, 110]) ||
  ((t.toList == [117, 110, 105, 120] && unix.contains S.os.data.toList) ||
  ((has S.s1 t || has S.s2 t) || has S.s3 t))))))

def CtxAt.Cells (S : Stg) (w : World) (q : Nat) (B1 B2 B3 : Option Addr) (d1 d2 d3 : Nat) : Prop :=
  w.cell? ⟨q, 0, none⟩ = some (.string S.ar) ∧ w.cell? ⟨q, 1, none⟩ = some (.string S.os) ∧ w.cell? ⟨q, 2, none⟩ = some (.bool S.cgo) ∧ w.cell? ⟨q, 3, none⟩ = some (.string S.co) ∧
  w.cell? ⟨q, 4, none⟩ = some (.slice B1 S.s1.length d1) ∧ w.cell? ⟨q, 5, none⟩ = some (.slice B2 S.s2.length d2) ∧ w.cell? ⟨q, 6, none⟩ = some (.slice B3 S.s3.length d3)
theorem CtxAt.out {S : Stg} {w : World} {q : Nat} (h : CtxAt S w q) : ∃ B1 B2 B3 d1 d2 d3, CtxAt.Cells S w q B1 B2 B3 d1 d2 d3 ∧ Strs w B1 S.s1 ∧ Strs w B2 S.s2 ∧ Strs w B3 S.s3 := by
  obtain ⟨hq, B1, B2, B3, d1, d2, d3, e, h1, h2, h3⟩ := h
  refine ⟨B1, B2, B3, d1, d2, d3, ⟨?_, ?_, ?_, ?_, ?_, ?_, ?_⟩, h1, h2, h3⟩ <;> (rw [cell_of_row w q _ _ 42 (0, 0) e]; rfl)

set_option maxRecDepth 100000 in
set_option maxHeartbeats 4000000 in
theorem matchTag_any (unix : List (List UInt8)) (S : Stg) (t : ByteArray) (q : Nat) (w : World) (hq : CtxAt S w q) (hm : MapIs w 0 unix)
    (ho : S.os.size ≤ maxLen) (l1 : S.s1.length ≤ maxLen) (l2 : S.s2.length ≤ maxLen) (l3 : S.s3.length ≤ maxLen) (hb : (t.toList == [98, 111, 114, 105, 110, 103, 99, 114, 121, 112, 116, 111]) = false) :
    Calls Tryd.prog 30 #[.pointer (some ⟨q, 0, none⟩), .string t, .map none] w fun e w' => e = .returned (.bool (met unix S t)) ∧ Drawn w w' := by
  obtain ⟨B1, B2, B3, d1, d2, d3, ⟨c0, c1, c2, c3, c4, c5, c6⟩, s1, s2, s3⟩ := hq.out
  clear hq
  obtain ⟨bm, cm, hg, hl⟩ := hm
  have HR0 := Lib.hid (fun n : Nat => hl (w.drewN n) (below_drewN (Below.refl _ _) n) S.os ho)
  clear hl
  have hmn : (binOp .neq 44 (.map none) (.map none)).run Tryd.prog w = .ok (.bool false) w := by kernel_rfl
  go_enter Tryd.func30, Tryd.ntmps30
  go_upto_region 3 with fail
  go_cut [18] from 7 (fun c wx => c = .bool (S.cgo && t.toList == [99, 103, 111]) ∧ wx = w)
  case first =>
    cases hc : S.cgo
    · go_wp2_with fail
      go_meet
      case rel => exact ⟨by simp only [hc, Bool.false_and, Bool.true_and], rfl⟩
    · go_wp2_with fail
      go_meet
      case rel => exact ⟨by simp only [hc, Bool.false_and, Bool.true_and], rfl⟩
  case rest =>
    obtain ⟨rfl, rfl⟩ := hcut
    cases h1 : (S.cgo && t.toList == [99, 103, 111])
    case true =>
      have H1 := Lib.hid h1; clear h1
      go_wp2_with fail
      go_ret
      exact ⟨ret_bool (by unfold met; rw [H1.out]; simp only [Bool.true_or, Bool.or_true]), Drawn.refl _⟩
    have H1 := Lib.hid h1; clear h1
    go_upto_region 5 with fail
    go_cut [40] from 19 (fun c wx => c = .bool (t.toList == S.os.toList || t.toList == S.ar.toList || t.toList == S.co.toList) ∧ wx = wc)
    case first =>
      cases ha : (t.toList == S.os.toList)
      · cases hb' : (t.toList == S.ar.toList)
        · go_wp2_with fail
          go_meet
          case rel => exact ⟨by simp only [ha, hb', Bool.false_or, Bool.true_or], rfl⟩
        · go_wp2_with fail
          go_meet
          case rel => exact ⟨by simp only [ha, hb', Bool.false_or, Bool.true_or], rfl⟩
      · go_wp2_with fail
        go_meet
        case rel => exact ⟨by simp only [ha, Bool.true_or], rfl⟩
    case rest =>
      obtain ⟨rfl, rfl⟩ := hcut
      cases h2 : (t.toList == S.os.toList || t.toList == S.ar.toList || t.toList == S.co.toList)
      case true =>
        have H2 := Lib.hid h2; clear h2
        go_wp2_with fail
        go_ret
        exact ⟨ret_bool (by unfold met; rw [H2.out]; simp only [Bool.true_or, Bool.or_true]), Drawn.refl _⟩
      have H2 := Lib.hid h2; clear h2
      go_upto_region 7 with fail
      go_cut [49] from 41 (fun c wx => c = .bool (S.os.toList == [97, 110, 100, 114, 111, 105, 100] && t.toList == [108, 105, 110, 117, 120]) ∧ wx = wc)
      case first =>
        cases ha : (S.os.toList == [97, 110, 100, 114, 111, 105, 100])
        · go_wp2_with fail
          go_meet
          case rel => exact ⟨by simp only [ha, Bool.false_and, Bool.true_and], rfl⟩
        · go_wp2_with fail
          go_meet
          case rel => exact ⟨by simp only [ha, Bool.false_and, Bool.true_and], rfl⟩
      case rest =>
        obtain ⟨rfl, rfl⟩ := hcut
        cases h3 : (S.os.toList == [97, 110, 100, 114, 111, 105, 100] && t.toList == [108, 105, 110, 117, 120])
        case true =>
          have H3 := Lib.hid h3; clear h3
          go_wp2_with fail
          go_ret
          exact ⟨ret_bool (by unfold met; rw [H3.out]; simp only [Bool.true_or, Bool.or_true]), Drawn.refl _⟩
        have H3 := Lib.hid h3; clear h3
        go_upto_region 9 with fail
        go_cut [58] from 50 (fun c wx => c = .bool (S.os.toList == [105, 108, 108, 117, 109, 111, 115] && t.toList == [115, 111, 108, 97, 114, 105, 115]) ∧ wx = wc)
        case first =>
          cases ha : (S.os.toList == [105, 108, 108, 117, 109, 111, 115])
          · go_wp2_with fail
            go_meet
            case rel => exact ⟨by simp only [ha, Bool.false_and, Bool.true_and], rfl⟩
          · go_wp2_with fail
            go_meet
            case rel => exact ⟨by simp only [ha, Bool.false_and, Bool.true_and], rfl⟩
        case rest =>
          obtain ⟨rfl, rfl⟩ := hcut
          cases h4 : (S.os.toList == [105, 108, 108, 117, 109, 111, 115] && t.toList == [115, 111, 108, 97, 114, 105, 115])
          case true =>
            have H4 := Lib.hid h4; clear h4
            go_wp2_with fail
            go_ret
            exact ⟨ret_bool (by unfold met; rw [H4.out]; simp only [Bool.true_or, Bool.or_true]), Drawn.refl _⟩
          have H4 := Lib.hid h4; clear h4
          go_upto_region 11 with fail
          go_cut [67] from 59 (fun c wx => c = .bool (S.os.toList == [105, 111, 115] && t.toList == [100, 97, 114, 119, 105, 110]) ∧ wx = wc)
          case first =>
            cases ha : (S.os.toList == [105, 111, 115])
            · go_wp2_with fail
              go_meet
              case rel => exact ⟨by simp only [ha, Bool.false_and, Bool.true_and], rfl⟩
            · go_wp2_with fail
              go_meet
              case rel => exact ⟨by simp only [ha, Bool.false_and, Bool.true_and], rfl⟩
          case rest =>
            obtain ⟨rfl, rfl⟩ := hcut
            cases h5 : (S.os.toList == [105, 111, 115] && t.toList == [100, 97, 114, 119, 105, 110])
            case true =>
              have H5 := Lib.hid h5; clear h5
              go_wp2_with fail
              go_ret
              exact ⟨ret_bool (by unfold met; rw [H5.out]; simp only [Bool.true_or, Bool.or_true]), Drawn.refl _⟩
            have H5 := Lib.hid h5; clear h5
            go_upto_region 13 with fail
            go_cut [77] from 68 (fun c wx => c = .bool (t.toList == [117, 110, 105, 120] && unix.contains S.os.data.toList) ∧ Drawn wc wx)
            case first =>
              cases ha : (t.toList == [117, 110, 105, 120])
              · go_quiet (fail)
                go_wp2_with fail
                go_meet
                case rel => exact ⟨by simp only [ha, Bool.false_and], ⟨_, rfl⟩⟩
              · have hr := HR0.out
                go_quiet (fail)
                go_wp2_with fail
                go_meet
                case rel => exact ⟨by simp only [ha, Bool.true_and]; simp, ⟨_, rfl⟩⟩
            case rest =>
              obtain ⟨rfl, hdr⟩ := hcut
              obtain ⟨nd, rfl⟩ := hdr
              cases h6 : (t.toList == [117, 110, 105, 120] && unix.contains S.os.data.toList)
              case true =>
                have H6 := Lib.hid h6; clear h6
                go_wp2_with fail
                go_ret
                exact ⟨ret_bool (by unfold met; rw [H6.out]; simp only [Bool.true_or, Bool.or_true]), ⟨_, rfl⟩⟩
              have H6 := Lib.hid h6; clear h6
              clear HR0
              have t1 := s1.drewN nd
              have t2 := s2.drewN nd
              have t3 := s3.drewN nd
              cases g1 : has S.s1 t
              case true =>
                have G1 := Lib.hid g1; clear g1
                go_wp2_with fail
                refine (contains_any _ S.s1 t _ _ t1 l1).mono ?_; rintro e w' ⟨rfl, rfl⟩; rw [G1.out]
                go_wp2_with fail
                go_ret
                exact ⟨ret_bool (by unfold met; rw [G1.out]; simp only [Bool.true_or, Bool.or_true]), ⟨_, rfl⟩⟩
              have G1 := Lib.hid g1; clear g1
              cases g2 : has S.s2 t
              case true =>
                have G2 := Lib.hid g2; clear g2
                go_wp2_with fail
                refine (contains_any _ S.s1 t _ _ t1 l1).mono ?_; rintro e w' ⟨rfl, rfl⟩; rw [G1.out]
                go_wp2_with fail
                refine (contains_any _ S.s2 t _ _ t2 l2).mono ?_; rintro e w' ⟨rfl, rfl⟩; rw [G2.out]
                go_wp2_with fail
                go_ret
                exact ⟨ret_bool (by unfold met; rw [G2.out]; simp only [Bool.true_or, Bool.or_true]), ⟨_, rfl⟩⟩
              have G2 := Lib.hid g2; clear g2
              go_wp2_with fail
              refine (contains_any _ S.s1 t _ _ t1 l1).mono ?_; rintro e w' ⟨rfl, rfl⟩; rw [G1.out]
              go_wp2_with fail
              refine (contains_any _ S.s2 t _ _ t2 l2).mono ?_; rintro e w' ⟨rfl, rfl⟩; rw [G2.out]
              go_wp2_with fail
              refine (contains_any _ S.s3 t _ _ t3 l3).mono ?_; rintro e w' ⟨rfl, rfl⟩
              go_wp2_with fail
              go_ret
              exact ⟨ret_bool (by unfold met; rw [H1.out, H2.out, H3.out, H4.out, H5.out, H6.out, G1.out, G2.out]; simp only [Bool.false_or]), ⟨_, rfl⟩⟩

end Go.Proofs.YtbociefjibgklaaDoor
