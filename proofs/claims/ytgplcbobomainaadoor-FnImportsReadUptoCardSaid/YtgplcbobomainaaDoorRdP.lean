/-
  peekByte of package goimports.
-/
import Derived.Test.YtgplcbobomainaaDoorRdR
import Derived.Test.YtgplcbobomainaaDoorRdK
import Derived.Deep.LoopGhost
import Derived.Deep.CutRange
namespace Go.Proofs.YtgplcbobomainaaDoor.GI
open Go.RowKit
set_option linter.unusedVariables false
set_option linter.unusedSimpArgs false

/-- What a loop's walk sees of the error. -/
theorem RdA.errV_ {O : Nat → Option Obj} {E : EB} {w0 : World} {K : SK} {p q B s d : Nat} {V : Value} {S : RS} {w : World} (h : RdA O E w0 K p q B s d V S w) :
    (S.err = .no ∧ w.cell? ⟨p, 3, none⟩ = some .nilIface) ∨ (S.err ≠ .no ∧ ∃ b, w.cell? ⟨p, 3, none⟩ = some (.iface 98 (.pointer (some b)))) := by
  have c3 := h.cells.2.2.2.1
  cases he : S.err with
  | no => exact .inl ⟨rfl, by rw [c3, he]; rfl⟩
  | syn => exact .inr ⟨by simp, E.syn, by rw [c3, he]; rfl⟩
  | nul => exact .inr ⟨by simp, E.nul, by rw [c3, he]; rfl⟩
/-- The fields that a test asks. -/
def Sees (p : Nat) (S : RS) (w : World) : Prop :=
  ((S.err = .no ∧ w.cell? ⟨p, 3, none⟩ = some .nilIface) ∨ (S.err ≠ .no ∧ ∃ b, w.cell? ⟨p, 3, none⟩ = some (.iface 98 (.pointer (some b))))) ∧ w.cell? ⟨p, 4, none⟩ = some (.bool S.eof) ∧ w.cell? ⟨p, 2, none⟩ = some (.int .u8 (S.peek.toNat : Int)) ∧ w.frozen? ⟨p, 2, none⟩ = false
section
variable {O : Nat → Option Obj} {E : EB} {w0 : World} {p : Nat} {S : RS} {w : World}
theorem Rd.sees (h : Rd O E w0 p S w) : Sees p S w := by
  obtain ⟨K, q, B, s, d, V, h⟩ := h
  exact ⟨h.errV_, h.cells.2.2.2.2.1, h.cells.2.2.1, h.thaw.2.1⟩
theorem Rd.setPeek (h : Rd O E w0 p S w) (c : UInt8) : Rd O E w0 p { S with peek := c } (w.setCell ⟨p, 2, none⟩ (.int .u8 (c.toNat : Int))) := by
  obtain ⟨K, q, B, s, d, V, h⟩ := h
  exact ⟨K, q, B, s, d, V, h.put 2 _ rfl rfl rfl⟩
theorem Rd.setNerr (h : Rd O E w0 p S w) : w.cell? ⟨p, 5, none⟩ = some (.int .i64 (S.nerr : Nat)) ∧ w.frozen? ⟨p, 5, none⟩ = false ∧ Rd O E w0 p { S with nerr := S.nerr + 1 } (w.setCell ⟨p, 5, none⟩ (.int .i64 ((S.nerr : Int) + 1))) := by
  obtain ⟨K, q, B, s, d, V, h⟩ := h
  exact ⟨h.cells.2.2.2.2.2, h.thaw.2.2.2.2, K, q, B, s, d, V, h.put 5 _ rfl rfl rfl⟩
theorem Rd.peekCell (h : Rd O E w0 p S w) (c : UInt8) : (w.setCell ⟨p, 2, none⟩ (.int .u8 (c.toNat : Int))).cell? ⟨p, 2, none⟩ = some (.int .u8 (c.toNat : Int)) := by
  obtain ⟨K, q, B, s, d, V, h⟩ := h.setPeek c
  exact h.cells.2.2.1
end

/-- The loops' relations: what the steps come to stays. -/
def LineRel (O : Nat → Option Obj) (E : EB) (w0 : World) (p : Nat) (R : RS × UInt8) (k : Nat) (c : Value) (w : World) : Prop := ∃ S b, c = .int .u8 (b.toNat : Int) ∧ Rd O E w0 p S w ∧ line S b = R ∧ S.mu ≤ k
def BlockRel (O : Nat → Option Obj) (E : EB) (w0 : World) (p : Nat) (R : RS × UInt8 × UInt8) (k : Nat) (c d : Value) (w : World) : Prop := ∃ S b b1, c = .int .u8 (b.toNat : Int) ∧ d = .int .u8 (b1.toNat : Int) ∧ Rd O E w0 p S w ∧ block S b b1 = R ∧ S.mu ≤ k
def SkipRel (O : Nat → Option Obj) (E : EB) (w0 : World) (p : Nat) (R : RS × UInt8) (sk : Bool) (k : Nat) (c : Value) (w : World) : Prop := ∃ S b, c = .int .u8 (b.toNat : Int) ∧ Rd O E w0 p S w ∧ skipIf sk (S, b) = R ∧ S.mu ≤ k
def FirstRel (O : Nat → Option Obj) (E : EB) (w0 : World) (p : Nat) (S : RS) (c : Value) (w : World) : Prop := c = .int .u8 ((first S).2.toNat : Int) ∧ Rd O E w0 p (first S).1 w

set_option maxRecDepth 100000 in
set_option maxHeartbeats 2000000 in
theorem peekByte_err {O : Nat → Option Obj} {E : EB} {w0 : World} {p : Nat} {S : RS} {w : World} (sk : Bool) (h : Rd O E w0 p S w) (he : S.err ≠ .no) (hn : S.nerr < 10000) :
    Calls Tryd.prog 41 #[.pointer (some ⟨p, 0, none⟩), .bool sk] w fun e w' => e = .returned (.int .u8 ((pk sk S).2.toNat : Int)) ∧ Rd O E w0 p (pk sk S).1 w' := by
  have HPK := Lib.hid (pk_err (sk := sk) he)
  obtain ⟨c5, f5, h5⟩ := h.setNerr
  obtain ⟨b, e3⟩ : ∃ b, w.cell? ⟨p, 3, none⟩ = some (.iface 98 (.pointer (some b))) := by
    rcases h.sees.1 with h | h
    · exact absurd h.1 he
    · exact h.2
  have c5' : (w.setCell ⟨p, 5, none⟩ (.int .i64 ((S.nerr : Int) + 1))).cell? ⟨p, 5, none⟩ = some (.int .i64 ((S.nerr : Int) + 1)) := by
    have := h5.setNerr.1
    simpa using this
  have hdec : decide ((10000 : Int) < (S.nerr : Int) + 1) = false := by rw [decide_eq_false_iff_not]; omega
  clear he
  go_enter Tryd.func41, Tryd.ntmps41
  go_wp2_with fail
  go_ret
  rw [HPK.out]
  exact ⟨rfl, h5⟩

set_option maxRecDepth 100000 in
set_option maxHeartbeats 4000000 in
theorem peekByte_no {O : Nat → Option Obj} {E : EB} {w0 : World} {p : Nat} {S : RS} {w : World} (sk : Bool) (h : Rd O E w0 p S w) (he : S.err = .no) :
    Calls Tryd.prog 41 #[.pointer (some ⟨p, 0, none⟩), .bool sk] w fun e w' => e = .returned (.int .u8 ((pk sk S).2.toNat : Int)) ∧ Rd O E w0 p (pk sk S).1 w' := by
  have HPK := Lib.hid (pk_no (sk := sk) he)
  obtain ⟨hs3, c4, c2, f2⟩ := h.sees
  have e3 : w.cell? ⟨p, 3, none⟩ = some .nilIface := by
    rcases hs3 with h | h
    · exact h.2
    · exact absurd he h.1
  clear hs3 he
  obtain ⟨b30, h30⟩ : ∃ b30, ((S.peek.toNat : Int) == 0) = b30 := ⟨_, rfl⟩
  go_enter Tryd.func41, Tryd.ntmps41
  go_upto_if 30 with (fail)
  go_cut [5] from 31 (fun c wx => FirstRel O E w0 p S c wx)
  case first =>
    by_cases h0 : S.peek = 0
    · have HF : Hid (first S = rb S) := Lib.hid (by unfold first; rw [if_pos h0])
      obtain rfl : b30 = true := by rw [← h30, h0]; rfl
      clear h30 h0
      go_wp2_with fail
      refine (readByte_any h).mono ?_; rintro e w1 ⟨rfl, h1⟩
      go_wp2_with fail
      go_meet
      case rel => exact ⟨by rw [HF.out], by rw [HF.out]; exact h1⟩
    · have HF : Hid (first S = (S, S.peek)) := Lib.hid (by unfold first; rw [if_neg h0])
      obtain rfl : b30 = false := by rw [← h30]; exact byte_ne (c := 0) h0
      clear h30 h0
      go_wp2_with fail
      go_meet
      case rel => exact ⟨by rw [HF.out], by rw [HF.out]; exact h⟩
  case rest =>
  clear h30 e3 c4 c2 f2 h
  obtain ⟨rfl, h1⟩ := hcut
  obtain ⟨w1, rfl⟩ : ∃ w1 : World, w1 = wc := ⟨_, rfl⟩
  obtain ⟨R, HR⟩ : ∃ R, Hid (skipIf sk (first S) = R) := ⟨_, Lib.hid rfl⟩
  have HPK2 : Hid (pk sk S = ({ R.1 with peek := R.2 }, R.2)) := Lib.hid (by rw [HPK.out, HR.out])
  have HR2 : Hid (skipIf sk ((first S).1, (first S).2) = R) := HR
  clear HPK HR
  generalize (first S).1 = S1 at *
  generalize (first S).2 = b1 at *
  go_wp2_with fail
  go_loopg [5] (S1.mu) (fun k c wr => SkipRel O E w0 p R sk k c wr)
  case atStart => exact ⟨S1, b1, rfl, h1, HR2.out, Nat.le_refl _⟩
  case round =>
    obtain ⟨S2, b, rfl, h2, hrel2, hk⟩ := hrel
    have HREL := Lib.hid hrel2
    clear hrel2 h1 HR2
    obtain ⟨k0, rfl⟩ : ∃ k0, k0 = gk := ⟨_, rfl⟩
    obtain ⟨w2, rfl⟩ : ∃ w2 : World, w2 = wr := ⟨_, rfl⟩
    obtain ⟨hs3, c4, c2, f2⟩ := h2.sees
    rcases hs3 with ⟨he, e3⟩ | ⟨he, b3, e3⟩
    · cases hf : S2.eof
      · rw [hf] at c4
        cases sk
        · have HEE := Lib.hid (HREL.out.symm.trans (skipIf_false _))
          clear he hf HREL
          have HE : Hid (R = (S2, b)) := Lib.hid (HEE.out)
          have cp := h2.peekCell b
          go_wp2_with fail
          go_ret
          rw [HPK2.out, HE.out]
          exact ⟨rfl, h2.setPeek b⟩
        · have hgo := go_of he hf
          have hlt := rb_lt hf
          rcases sp_cases (c := b) with hsp | hnsp
          · have HS : Hid (R = skip (rb S2).1 (rb S2).2) := Lib.hid (HREL.out.symm.trans ((skipIf_true S2 b).trans (skip_sp hgo (by rcases hsp with rfl | rfl | rfl | rfl | rfl | rfl <;> decide))))
            clear he hf hgo HREL
            have HLT := Lib.hid hlt
            clear hlt
            rcases hsp with rfl | rfl | rfl | rfl | rfl | rfl
            all_goals
              go_wp2_with fail
              refine (readByte_any h2).mono ?_; rintro e w3 ⟨rfl, h3⟩
              go_wp2_with fail
              go_roundg (k0 - 1)
              case rel => exact ⟨(rb S2).1, (rb S2).2, rfl, h3, HS.out.symm, by have := HLT.out; omega⟩
              all_goals (have := HLT.out; omega)
          · by_cases h47 : b = 47
            · subst h47
              have HS : Hid (R = skip (rb (cmt (rb S2).1 (rb S2).2)).1 (rb (cmt (rb S2).1 (rb S2).2)).2) := Lib.hid (HREL.out.symm.trans ((skipIf_true S2 47).trans (skip_cm hgo)))
              have HMU : Hid ((rb (cmt (rb S2).1 (rb S2).2)).1.mu < S2.mu) := Lib.hid (Nat.lt_of_le_of_lt (rb_le _).mu (Nat.lt_of_le_of_lt (cmt_le _ _).mu hlt))
              clear he hf hgo HREL hlt hnsp
              go_wp2_with fail
              refine (readByte_any h2).mono ?_; rintro e w3 ⟨rfl, h3⟩
              clear h2 c4 c2 f2 e3
              generalize (rb S2).1 = S3 at *
              generalize (rb S2).2 = b3 at *
              by_cases h47 : b3 = 47
              · subst h47
                obtain ⟨R2, HR2⟩ : ∃ R2, Hid (line S3 47 = R2) := ⟨_, Lib.hid rfl⟩
                have HC0 : Hid (cmt S3 47 = R2.1) := Lib.hid (by unfold cmt; rw [if_pos rfl, HR2.out])
                go_wp2_with fail
                go_loopg [5] (S3.mu) (fun k c wr => LineRel O E w0 p R2 k c wr)
                case atStart => exact ⟨S3, 47, rfl, h3, HR2.out, Nat.le_refl _⟩
                case round =>
                  obtain ⟨S4, b4, rfl, h4, hrel4, hk4⟩ := hrel
                  have HREL := Lib.hid hrel4
                  clear hrel4 h3 HR2
                  by_cases h10 : b4 = 10
                  · subst h10
                    have HC : Hid (cmt S3 47 = S4) := Lib.hid (HC0.out.trans (by rw [← HREL.out, line_lf]))
                    go_wp2_with fail
                    refine (readByte_any h4).mono ?_; rintro e w9 ⟨rfl, h9⟩
                    go_wp2_with fail
                    go_roundg (k0 - 1)
                    case rel => exact ⟨(rb S4).1, (rb S4).2, rfl, h9, by rw [← HC.out]; exact HS.out.symm, by rw [← HC.out]; have := HMU.out; omega⟩
                    all_goals (have := HMU.out; omega)
                  · have h10a : ((b4.toNat : Int) == 10) = false := byte_ne (c := 10) h10
                    have h10b : ((b4.toNat : Int) != 10) = true := by rw [bne, h10a]; rfl
                    obtain ⟨hs3, c4, c2, f2⟩ := h4.sees
                    rcases hs3 with ⟨he, e3⟩ | ⟨he, b3, e3⟩
                    · cases hf : S4.eof
                      · rw [hf] at c4
                        have HL : Hid (line (rb S4).1 (rb S4).2 = R2) := Lib.hid ((line_on h10 (go_of he hf)).symm.trans HREL.out)
                        have HLT := Lib.hid (rb_lt hf)
                        clear he hf h10 HREL
                        go_wp2_with fail
                        refine (readByte_any h4).mono ?_; rintro e w5 ⟨rfl, h5⟩
                        go_wp2_with fail
                        go_roundg (gk - 1)
                        case rel => exact ⟨(rb S4).1, (rb S4).2, rfl, h5, HL.out, by have := HLT.out; omega⟩
                        all_goals (have := HLT.out; omega)
                      · rw [hf] at c4
                        have HC : Hid (cmt S3 47 = S4) := Lib.hid (HC0.out.trans (by rw [← HREL.out, line_off (go_not2 hf)]))
                        clear he hf h10 HREL
                        go_wp2_with fail
                        refine (readByte_any h4).mono ?_; rintro e w9 ⟨rfl, h9⟩
                        go_wp2_with fail
                        go_roundg (k0 - 1)
                        case rel => exact ⟨(rb S4).1, (rb S4).2, rfl, h9, by rw [← HC.out]; exact HS.out.symm, by rw [← HC.out]; have := HMU.out; omega⟩
                        all_goals (have := HMU.out; omega)
                    · have HC : Hid (cmt S3 47 = S4) := Lib.hid (HC0.out.trans (by rw [← HREL.out, line_off (go_not1 he)]))
                      clear he h10 HREL
                      go_wp2_with fail
                      refine (readByte_any h4).mono ?_; rintro e w9 ⟨rfl, h9⟩
                      go_wp2_with fail
                      go_roundg (k0 - 1)
                      case rel => exact ⟨(rb S4).1, (rb S4).2, rfl, h9, by rw [← HC.out]; exact HS.out.symm, by rw [← HC.out]; have := HMU.out; omega⟩
                      all_goals (have := HMU.out; omega)
              · have h47a : ((b3.toNat : Int) == 47) = false := byte_ne (c := 47) h47
                by_cases h42 : b3 = 42
                · subst h42
                  obtain ⟨R2, HR2⟩ : ∃ R2, Hid (block S3 42 0 = R2) := ⟨_, Lib.hid rfl⟩
                  have HC0 : Hid (cmt S3 42 = R2.1) := Lib.hid (by unfold cmt; rw [if_neg (by decide), if_pos rfl, HR2.out])
                  clear h47 h47a
                  go_wp2_with fail
                  go_loopg [5, 6] (S3.mu) (fun k c d wr => BlockRel O E w0 p R2 k c d wr)
                  case atStart => exact ⟨S3, 42, 0, rfl, rfl, h3, HR2.out, Nat.le_refl _⟩
                  case round =>
                    obtain ⟨S4, b4, b5, rfl, rfl, h4, hrel4, hk4⟩ := hrel
                    have HREL := Lib.hid hrel4
                    clear hrel4 h3 HR2
                    obtain ⟨hs3, c4, c2, f2⟩ := h4.sees
                    by_cases hend : b4 = 42 ∧ b5 = 47
                    · obtain ⟨rfl, rfl⟩ := hend
                      have HC : Hid (cmt S3 42 = S4) := Lib.hid (HC0.out.trans (by rw [← HREL.out, block_end]))
                      clear hs3
                      go_wp2_with fail
                      refine (readByte_any h4).mono ?_; rintro e w9 ⟨rfl, h9⟩
                      go_wp2_with fail
                      go_roundg (k0 - 1)
                      case rel => exact ⟨(rb S4).1, (rb S4).2, rfl, h9, by rw [← HC.out]; exact HS.out.symm, by rw [← HC.out]; have := HMU.out; omega⟩
                      all_goals (have := HMU.out; omega)
                    · have hne : b4 ≠ 42 ∨ b5 ≠ 47 := by
                        by_cases h1 : b4 = 42
                        · exact .inr (fun h2 => hend ⟨h1, h2⟩)
                        · exact .inl h1
                      clear hend
                      rcases hs3 with ⟨he, e3⟩ | ⟨he, b3, e3⟩
                      · have HL : Hid (block (rb (bstep S4)).1 b5 (rb (bstep S4)).2 = R2) := Lib.hid ((block_on hne he).symm.trans HREL.out)
                        have HLT := Lib.hid (bstep_lt he)
                        clear HREL he
                        cases hf : S4.eof
                        · have HB : Hid (bstep S4 = S4) := Lib.hid (by unfold bstep; rw [hf]; simp)
                          rw [hf] at c4
                          clear hf
                          rcases block_two hne with ⟨n1, n2⟩ | ⟨n1, n2, n3, n4⟩
                          all_goals
                            clear hne
                            go_wp2_with fail
                            refine (readByte_any h4).mono ?_; rintro e w5 ⟨rfl, h5⟩
                            go_wp2_with fail
                            rw [HB.out] at HL HLT
                            go_roundg (gk - 1)
                            case rel => exact ⟨(rb S4).1, b5, (rb S4).2, rfl, rfl, h5, HL.out, by have := HLT.out; omega⟩
                            all_goals (have := HLT.out; omega)
                        · have HB : Hid (bstep S4 = syn S4) := Lib.hid (by unfold bstep; rw [hf]; simp)
                          rw [hf] at c4
                          clear hf
                          rcases block_two hne with ⟨n1, n2⟩ | ⟨n1, n2, n3, n4⟩
                          all_goals
                            clear hne
                            go_wp2_with fail
                            refine (syntaxError_any h4).mono ?_; rintro e w5 ⟨rfl, h5⟩
                            go_wp2_with fail
                            refine (readByte_any h5).mono ?_; rintro e w6 ⟨rfl, h6⟩
                            go_wp2_with fail
                            rw [HB.out] at HL HLT
                            go_roundg (gk - 1)
                            case rel => exact ⟨(rb (syn S4)).1, b5, (rb (syn S4)).2, rfl, rfl, h6, HL.out, by have := HLT.out; omega⟩
                            all_goals (have := HLT.out; omega)
                      · have HC : Hid (cmt S3 42 = S4) := Lib.hid (HC0.out.trans (by rw [← HREL.out, block_off he]))
                        clear he HREL
                        rcases block_two hne with ⟨n1, n2⟩ | ⟨n1, n2, n3, n4⟩
                        all_goals
                          clear hne
                          go_wp2_with fail
                          refine (readByte_any h4).mono ?_; rintro e w9 ⟨rfl, h9⟩
                          go_wp2_with fail
                          go_roundg (k0 - 1)
                          case rel => exact ⟨(rb S4).1, (rb S4).2, rfl, h9, by rw [← HC.out]; exact HS.out.symm, by rw [← HC.out]; have := HMU.out; omega⟩
                          all_goals (have := HMU.out; omega)
                · have h42a : ((b3.toNat : Int) == 42) = false := byte_ne (c := 42) h42
                  have HC : Hid (cmt S3 b3 = syn S3) := Lib.hid (by unfold cmt; rw [if_neg h47, if_neg h42])
                  clear h42 h47
                  go_wp2_with fail
                  refine (syntaxError_any h3).mono ?_; rintro e w5 ⟨rfl, h5⟩
                  go_wp2_with fail
                  refine (readByte_any h5).mono ?_; rintro e w9 ⟨rfl, h9⟩
                  go_wp2_with fail
                  go_roundg (k0 - 1)
                  case rel => exact ⟨(rb (syn S3)).1, (rb (syn S3)).2, rfl, h9, by rw [← HC.out]; exact HS.out.symm, by rw [← HC.out]; have := HMU.out; omega⟩
                  all_goals (have := HMU.out; omega)
            · obtain ⟨n1, n2, n3, n4, n5, n6⟩ := sp_ne hnsp
              have HEE := Lib.hid (HREL.out.symm.trans ((skipIf_true S2 b).trans (skip_id hnsp h47)))
              have a1 : ((b.toNat : Int) == 32) = false := byte_ne (c := 32) n1
              have a2 : ((b.toNat : Int) == 12) = false := byte_ne (c := 12) n2
              have a3 : ((b.toNat : Int) == 9) = false := byte_ne (c := 9) n3
              have a4 : ((b.toNat : Int) == 13) = false := byte_ne (c := 13) n4
              have a5 : ((b.toNat : Int) == 10) = false := byte_ne (c := 10) n5
              have a6 : ((b.toNat : Int) == 59) = false := byte_ne (c := 59) n6
              have a7 : ((b.toNat : Int) == 47) = false := byte_ne (c := 47) h47
              clear he hf HREL hgo hlt hnsp h47 n1 n2 n3 n4 n5 n6
              have HE : Hid (R = (S2, b)) := Lib.hid (HEE.out)
              have cp := h2.peekCell b
              go_wp2_with fail
              go_ret
              rw [HPK2.out, HE.out]
              exact ⟨rfl, h2.setPeek b⟩
      · rw [hf] at c4
        have HEE := Lib.hid (HREL.out.symm.trans (skipIf_off (go_not2 hf)))
        clear he hf HREL
        have HE : Hid (R = (S2, b)) := Lib.hid (HEE.out)
        have cp := h2.peekCell b
        go_wp2_with fail
        go_ret
        rw [HPK2.out, HE.out]
        exact ⟨rfl, h2.setPeek b⟩
    · have HEE := Lib.hid (HREL.out.symm.trans (skipIf_off (go_not1 he)))
      clear he HREL
      have HE : Hid (R = (S2, b)) := Lib.hid (HEE.out)
      have cp := h2.peekCell b
      go_wp2_with fail
      go_ret
      rw [HPK2.out, HE.out]
      exact ⟨rfl, h2.setPeek b⟩

theorem peekByte_any {O : Nat → Option Obj} {E : EB} {w0 : World} {p : Nat} {S : RS} {w : World} (sk : Bool) (h : Rd O E w0 p S w) (hn : S.nerr < 10000) :
    Calls Tryd.prog 41 #[.pointer (some ⟨p, 0, none⟩), .bool sk] w fun e w' => e = .returned (.int .u8 ((pk sk S).2.toNat : Int)) ∧ Rd O E w0 p (pk sk S).1 w' := by
  by_cases he : S.err = .no
  · exact peekByte_no sk h he
  · exact peekByte_err sk h he hn
end Go.Proofs.YtgplcbobomainaaDoor.GI
