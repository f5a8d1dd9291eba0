/-
  nextByte, isIdent, readKeyword, readIdent.
-/
import Derived.Test.YtgplcbobomainaaDoorRdP
import Derived.Test.YtgplcbobomainaaDoorRdL
import Derived.Deep.RegionHeld3
namespace Go.Proofs.YtgplcbobomainaaDoor.GI
open Go.RowKit
set_option linter.unusedVariables false
set_option linter.unusedSimpArgs false

theorem Rd.drew {O : Nat → Option Obj} {E : EB} {w0 : World} {p : Nat} {S : RS} {w : World} (h : Rd O E w0 p S w) : Rd O E w0 p S w.drew := by
  obtain ⟨K, q, B, s, d, V, h⟩ := h
  exact ⟨K, q, B, s, d, V, h.prow, ownsRow_keep h.own (fun g hg => rfl), h.vne, BufStKeep h.buf (Nat.le_refl _) rfl rfl rfl rfl rfl, h.pq, h.pB, h.ps, h.pd, h.below.drew, h.bp, h.bq, h.bB, h.bs, h.bd, h.errs, h.tot, h.keep⟩
theorem Rd.drewN {O : Nat → Option Obj} {E : EB} {w0 : World} {p : Nat} {S : RS} {w : World} (h : Rd O E w0 p S w) (n : Nat) : Rd O E w0 p S (w.drewN n) := by
  obtain ⟨K, q, B, s, d, V, h⟩ := h
  exact ⟨K, q, B, s, d, V, h.drewN n⟩
theorem nextByte_any {O : Nat → Option Obj} {E : EB} {w0 : World} {p : Nat} {S : RS} {w : World} (sk : Bool) (h : Rd O E w0 p S w) (hn : S.nerr < 10000) :
    Calls Tryd.prog 42 #[.pointer (some ⟨p, 0, none⟩), .bool sk] w fun e w' => e = .returned (.int .u8 ((nx sk S).2.toNat : Int)) ∧ Rd O E w0 p (nx sk S).1 w' := by
  go_enter Tryd.func42, Tryd.ntmps42
  go_wp2_with fail
  refine (peekByte_any sk h hn).mono ?_; rintro e w1 ⟨rfl, h1⟩
  obtain ⟨_, _, c2, f2⟩ := h1.sees
  go_wp2_with fail
  go_ret
  exact ⟨rfl, h1.setPeek 0⟩

set_option maxHeartbeats 1000000 in
theorem isIdent_any (b : UInt8) (n : Int) (hn : n = (b.toNat : Int)) (w : World) :
    Calls Tryd.prog 54 #[.int .u8 n] w fun e w' => e = .returned (.bool (isId b)) ∧ w = w' := by
  subst hn
  have hb : b.toNat < 256 := b.toNat_lt
  by_cases h95 : b = 95
  · subst h95
    go_enter Tryd.func54, Tryd.ntmps54
    go_wp2
    go_ret
    exact ⟨rfl, rfl⟩
  · have e95 : ((b.toNat : Int) == 95) = false := byte_ne (c := 95) h95
    have hn95 : b.toNat ≠ 95 := fun e => h95 (UInt8.toNat_inj.1 e)
    have h95b : (b == 95) = false := by simpa using h95
    have H95 := Lib.hid h95b
    clear h95 h95b
    rcases (by omega : b.toNat < 48 ∨ (48 ≤ b.toNat ∧ b.toNat ≤ 57) ∨ (58 ≤ b.toNat ∧ b.toNat ≤ 64) ∨ (65 ≤ b.toNat ∧ b.toNat ≤ 90) ∨ (91 ≤ b.toNat ∧ b.toNat ≤ 96) ∨ (97 ≤ b.toNat ∧ b.toNat ≤ 122) ∨ (123 ≤ b.toNat ∧ b.toNat ≤ 127) ∨ 128 ≤ b.toNat) with h | ⟨h, h'⟩ | ⟨h, h'⟩ | ⟨h, h'⟩ | ⟨h, h'⟩ | ⟨h, h'⟩ | ⟨h, h'⟩ | h
    all_goals
      clear hn95
      go_enter Tryd.func54, Tryd.ntmps54
      go_wp2
      go_ret
      exact ⟨ret_bool (by unfold isId; rw [H95.out, Bool.eq_iff_iff]; simp; omega), rfl⟩

/-- The keyword's loop. -/
def KwRel (O : Nat → Option Obj) (E : EB) (w0 : World) (p : Nat) (R : RS × Bool) (l : List UInt8) (n0 : Nat) (i : Value) (w : World) : Prop :=
  ∃ (k : Nat) (S : RS), i = .int .i64 (k : Nat) ∧ k ≤ l.length ∧ Rd O E w0 p S w ∧ kwl (l.drop k) S = R ∧ S.nerr ≤ n0
theorem kwl_eq {k : UInt8} {t : List UInt8} {S : RS} (h : (nx false S).2 = k) : kwl (k :: t) S = kwl t (nx false S).1 := by rw [kwl, if_pos h]
theorem kwl_ne {k : UInt8} {t : List UInt8} {S : RS} (h : (nx false S).2 ≠ k) : kwl (k :: t) S = (syn (nx false S).1, false) := by rw [kwl, if_neg h]

set_option maxRecDepth 100000 in
set_option maxHeartbeats 2000000 in
theorem readKeyword_any {O : Nat → Option Obj} {E : EB} {w0 : World} {p : Nat} {S : RS} {w : World} (s : ByteArray) (hs : s.size ≤ 100) (hz : (s.data.toList.all fun k => !(k == 0)) = true) (h : Rd O E w0 p S w) (hn : S.nerr ≤ 9000) :
    Calls Tryd.prog 39 #[.pointer (some ⟨p, 0, none⟩), .string s] w fun e w' => e = .returned (.tuple #[]) ∧ Rd O E w0 p (kw s.data.toList S) w' := by
  have HZ := Lib.hid hz
  clear hz
  go_enter Tryd.func39, Tryd.ntmps39
  go_wp2_with fail
  refine (peekByte_any true h (by omega)).mono ?_; rintro e w1 ⟨rfl, h1⟩
  obtain ⟨R, HR⟩ : ∃ R, Hid (kwl s.data.toList (pk true S).1 = R) := ⟨_, Lib.hid rfl⟩
  have HK : Hid (kw s.data.toList S = kwEnd R) := Lib.hid (by unfold kw; rw [HR.out])
  have hn1 : (pk true S).1.nerr ≤ 9001 := by have := (pk_nb true S).le; omega
  clear h
  generalize (pk true S).1 = S1 at *
  go_wp2_with fail
  go_loopw [4] (fun i wr => KwRel O E w0 p R s.data.toList 9001 i wr) (fun i _ => s.size - (intOf i).toNat)
  case atStart => exact ⟨0, S1, rfl, Nat.zero_le _, h1, HR.out, hn1⟩
  case round =>
    obtain ⟨k, S2, rfl, hk, h2, hrel2, hn2⟩ := hrel
    have HREL := Lib.hid hrel2
    clear hrel2 h1 HR hn1
    rw [← size_list] at hk
    by_cases hlt : k < s.size
    · have hi0 : (0 : Int) ≤ (k : Int) := by omega
      have hi1 : (k : Int) < (s.size : Int) := by omega
      have hdrop : s.data.toList.drop k = s[k] :: s.data.toList.drop (k + 1) := by rw [List.drop_eq_getElem_cons (by rw [← size_list]; exact hlt)]; rfl
      have hnz : s[k] ≠ 0 := by
        have := List.all_eq_true.1 HZ.out s[k] (by
          have : s[k] ∈ s.data.toList.drop k := by rw [hdrop]; exact List.mem_cons_self
          exact List.mem_of_mem_drop this)
        simpa using this
      have HD := Lib.hid hdrop
      have HNZ := Lib.hid hnz
      clear hdrop hnz
      go_wp2_with fail
      have h2d := h2.drew
      go_region_held3 (fun w' => True) (trivial) (first | (go_at_call 42; refine (nextByte_any false h2d (by omega)).mono ?_; rintro e w3 ⟨rfl, h3⟩))
      all_goals
        clear h2 h2d
        have hd2 : s.data.toList.drop (k + 1) = s.data.toList.drop (k + 1) := rfl
        generalize hx : s[k] = x at *
        clear hx hi0 hi1
        by_cases heq : (nx false S2).2 = x
        · have HL : Hid (kwl (s.data.toList.drop (k + 1)) (nx false S2).1 = R) := Lib.hid (by rw [← HREL.out, HD.out, kwl_eq heq])
          have hne : (nx false S2).1.nerr ≤ 9001 := by
            rw [nx_same (nx_err (by rw [heq]; exact HNZ.out))]; exact hn2
          have e1 : (((nx false S2).2.toNat : Int) == (x.toNat : Int)) = true := byte_eq heq
          have e2 : (((nx false S2).2.toNat : Int) != (x.toNat : Int)) = false := by rw [bne, e1]; rfl
          clear heq HD HREL HNZ hd2
          generalize (nx false S2).2 = y at *
          generalize (nx false S2).1 = S3 at *
          go_wp2_with fail
          go_roundw
          case rel => exact ⟨k + 1, S3, by go_num, by rw [← size_list]; omega, h3, HL.out, hne⟩
          case measure => simp [intOf]; omega
        · have HR2 : Hid (R = (syn (nx false S2).1, false)) := Lib.hid (by rw [← HREL.out, HD.out, kwl_ne heq])
          have e1 : (((nx false S2).2.toNat : Int) == (x.toNat : Int)) = false := byte_ne heq
          have e2 : (((nx false S2).2.toNat : Int) != (x.toNat : Int)) = true := by rw [bne, e1]; rfl
          clear heq HD HREL HNZ hd2
          generalize (nx false S2).2 = y at *
          generalize (nx false S2).1 = S3 at *
          go_wp2_with fail
          refine (syntaxError_any h3).mono ?_; rintro e w4 ⟨rfl, h4⟩
          go_wp2_with fail
          refine bodyPost_ret (v := .tuple #[]) (by simp [results, Tryd.results39, go_sem]) rfl ⟨rfl, ?_⟩
          rw [HK.out, HR2.out]
          exact h4
    · obtain rfl : k = s.size := by omega
      have HR2 : Hid (R = (S2, true)) := Lib.hid (by rw [← HREL.out, List.drop_eq_nil_of_le (by rw [← size_list]; exact Nat.le_refl _)]; rfl)
      clear HREL
      go_wp2_with fail
      refine (peekByte_any false h2 (by omega)).mono ?_; rintro e w3 ⟨rfl, h3⟩
      go_wp2_with fail
      refine (isIdent_any (pk false S2).2 _ rfl _).mono ?_; rintro e w4 ⟨rfl, rfl⟩
      cases hid : isId (pk false S2).2
      · have HKE : Hid (kwEnd R = (pk false S2).1) := Lib.hid (by rw [HR2.out]; unfold kwEnd; rw [if_pos rfl]; simp only [hid]; simp)
        clear hid
        go_wp2_with fail
        go_end0
        rw [HK.out, HKE.out]
        exact ⟨rfl, h3⟩
      · have HKE : Hid (kwEnd R = syn (pk false S2).1) := Lib.hid (by rw [HR2.out]; unfold kwEnd; rw [if_pos rfl]; simp only [hid]; simp)
        clear hid
        go_wp2_with fail
        refine (syntaxError_any h3).mono ?_; rintro e w5 ⟨rfl, h5⟩
        go_wp2_with fail
        go_end0
        rw [HK.out, HKE.out]
        exact ⟨rfl, h5⟩

/-- The identifier's loop. -/
def IdRel (O : Nat → Option Obj) (E : EB) (w0 : World) (p : Nat) (R : RS) (n0 : Nat) (k : Nat) (w : World) : Prop :=
  ∃ S : RS, Rd O E w0 p S w ∧ idl S = R ∧ S.nerr ≤ n0 ∧ S.m2 ≤ k
theorem idl_on {S : RS} (h : isId (nx false S).2 = true) : idl S = idl (nx false S).1 := by rw [idl, dif_pos h]
theorem idl_off {S : RS} (h : isId (nx false S).2 = false) : idl S = (pk false S).1 := by rw [idl, dif_neg (by rw [h]; simp)]

set_option maxRecDepth 100000 in
set_option maxHeartbeats 2000000 in
theorem readIdent_any {O : Nat → Option Obj} {E : EB} {w0 : World} {p : Nat} {S : RS} {w : World} (h : Rd O E w0 p S w) (hn : S.nerr ≤ 9000) :
    Calls Tryd.prog 40 #[.pointer (some ⟨p, 0, none⟩)] w fun e w' => e = .returned (.tuple #[]) ∧ Rd O E w0 p (ident S) w' := by
  go_enter Tryd.func40, Tryd.ntmps40
  go_wp2_with fail
  refine (peekByte_any true h (by omega)).mono ?_; rintro e w1 ⟨rfl, h1⟩
  go_wp2_with fail
  refine (isIdent_any (pk true S).2 _ rfl _).mono ?_; rintro e w2 ⟨rfl, rfl⟩
  cases hid : isId (pk true S).2
  · have HI : Hid (ident S = syn (pk true S).1) := Lib.hid (by unfold ident; rw [hid]; simp)
    clear hid
    go_wp2_with fail
    refine (syntaxError_any h1).mono ?_; rintro e w3 ⟨rfl, h3⟩
    go_wp2_with fail
    refine bodyPost_ret (v := .tuple #[]) (by simp [results, Tryd.results40, go_sem]) rfl ⟨rfl, ?_⟩
    rw [HI.out]
    exact h3
  · obtain ⟨R, HR⟩ : ∃ R, Hid (idl (pk true S).1 = R) := ⟨_, Lib.hid rfl⟩
    have HI : Hid (ident S = R) := Lib.hid (by unfold ident; rw [hid, HR.out]; simp)
    have hn1 : (pk true S).1.nerr ≤ 9001 := by have := (pk_nb true S).le; omega
    clear hid h
    generalize (pk true S).1 = S1 at *
    go_wp2_with fail
    go_loopg [] (S1.m2) (fun k wr => IdRel O E w0 p R 9001 k wr)
    case atStart => exact ⟨S1, h1, HR.out, hn1, Nat.le_refl _⟩
    case round =>
      obtain ⟨S2, h2, hrel2, hn2, hk⟩ := hrel
      have HREL := Lib.hid hrel2
      clear hrel2 h1 HR hn1
      go_wp2_with fail
      refine (peekByte_any false h2 (by omega)).mono ?_; rintro e w3 ⟨rfl, h3⟩
      go_wp2_with fail
      refine (isIdent_any (pk false S2).2 _ rfl _).mono ?_; rintro e w4 ⟨rfl, rfl⟩
      obtain ⟨_, _, c2, f2⟩ := h3.sees
      have h4 := h3.setPeek 0
      cases hid : isId (pk false S2).2
      · have HR2 : Hid (R = (pk false S2).1) := Lib.hid (HREL.out.symm.trans (idl_off hid))
        clear hid HREL
        go_wp2_with fail
        go_end0
        rw [HI.out, HR2.out]
        exact ⟨rfl, h3⟩
      · have HL : Hid (idl (nx false S2).1 = R) := Lib.hid ((idl_on hid).symm.trans HREL.out)
        have hlt := nx_lt (id_ne hid)
        have hne : (nx false S2).1.nerr ≤ 9001 := by rw [nx_same (nx_err (id_ne hid))]; exact hn2
        have HLT := Lib.hid hlt
        clear hid HREL hlt
        go_wp2_with fail
        go_roundg (gk - 1)
        case rel => exact ⟨(nx false S2).1, h4, HL.out, hne, by have := HLT.out; omega⟩
        all_goals (have := HLT.out; omega)
end Go.Proofs.YtgplcbobomainaaDoor.GI
