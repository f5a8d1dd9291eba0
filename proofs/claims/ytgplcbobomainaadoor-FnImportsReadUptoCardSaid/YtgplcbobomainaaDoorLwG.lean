/-
  Helpers of the law FnImportsRead: Clause, IsLiteral, IsImport, areImports, follows.
-/
import Derived.Test.YtgplcbobomainaaDoorLwF
import Derived.BigQuiet
namespace Go.Proofs.YtgplcbobomainaaDoor
open Go.RowKit
set_option linter.unusedVariables false
set_option linter.unusedSimpArgs false

/-! ### Clause -/
def clauseS (n l : ByteArray) : ByteArray := if n.data.toList = [] then l else n ++ ⟨#[32]⟩ ++ l
theorem clauseS_list (n l : ByteArray) : (clauseS n l).data.toList = clauseL n.data.toList l.data.toList := by
  unfold clauseS clauseL
  split
  · rfl
  · simp [ByteArray.data_append]
theorem clause_any (n l : ByteArray) (wn : n.size ≤ 1048576) (wl : l.size ≤ 1048576) (w : World) :
    Calls Tryd.prog 32 #[.string n, .string l] w fun e w' => e = .returned (.string (clauseS n l)) ∧ w = w' := by
  cases he : n.toList == []
  · have hne : ¬ n.data.toList = [] := by rw [Lib.toList_data] at he; simpa using he
    have HC : Hid (clauseS n l = n ++ ⟨#[32]⟩ ++ l) := Lib.hid (by unfold clauseS; rw [if_neg hne])
    clear hne
    go_enter Tryd.func32, Tryd.ntmps32
    go_wp2
    go_ret
    exact ⟨by rw [HC.out]; rfl, rfl⟩
  · have hne : n.data.toList = [] := by rw [Lib.toList_data] at he; simpa using he
    have HC : Hid (clauseS n l = l) := Lib.hid (by unfold clauseS; rw [if_pos hne])
    clear hne
    go_enter Tryd.func32, Tryd.ntmps32
    go_wp2
    go_ret
    exact ⟨by rw [HC.out]; rfl, rfl⟩

/-! ### IsLiteral -/
def litBody (s : ByteArray) : List UInt8 := (s.data.toList.drop 1).take (s.size - 2)
def isLitS (s : ByteArray) : Bool := if h : 2 ≤ s.size then (s[0] == s[s.size - 1] && (s[0] == 34 || s[0] == 96)) && (litBody s).all (litC s[0]) else false
theorem isLit_of {s : ByteArray} (h : isLitS s = true) : IsLit s.data.toList := by
  unfold isLitS at h
  split at h
  case isFalse => cases h
  rename_i h2
  simp only [Bool.and_eq_true, Bool.or_eq_true, beq_iff_eq] at h
  obtain ⟨⟨h3, h4⟩, h5⟩ := h
  refine ⟨s[0], litBody s, ?_, h4, h5⟩
  have hlen : s.data.toList.length = s.size := (size_list s).symm
  have e0 : s.data.toList = s.data.toList[0]'(by omega) :: s.data.toList.drop 1 := by
    rw [List.getElem_cons_drop]; simp
  have e1 : s.data.toList.drop 1 = litBody s ++ [s.data.toList[s.size - 1]'(by omega)] := by
    unfold litBody
    conv => lhs; rw [← List.take_append_drop (s.size - 2) (s.data.toList.drop 1)]
    rw [List.drop_drop]
    congr 1
    have e2 : 1 + (s.size - 2) = s.size - 1 := by omega
    rw [e2, ← List.getElem_cons_drop (h := by omega)]
    rw [List.drop_eq_nil_of_le (by omega)]
  conv => lhs; rw [e0]
  rw [e1]
  have q0 : s.data.toList[0]'(by omega) = s[0] := rfl
  have q1 : s.data.toList[s.size - 1]'(by omega) = s[s.size - 1] := rfl
  rw [q0, q1, ← h3]
theorem litBody_at {s : ByteArray} {k : Nat} (h : k + 1 < s.size - 1) : (litBody s)[k]? = some s[k + 1] := by
  unfold litBody
  rw [List.getElem?_take_of_lt (by omega), List.getElem?_drop, List.getElem?_eq_getElem (by rw [← size_list]; omega)]
  have : 1 + k = k + 1 := by omega
  simp only [this]
  rfl
theorem litBody_snoc {s : ByteArray} {k : Nat} {p : UInt8 → Bool} (h : k + 1 < s.size - 1) (h1 : ((litBody s).take k).all p = true) (h2 : p s[k + 1] = true) : ((litBody s).take (k + 1)).all p = true := by
  have e := litBody_at h
  obtain ⟨hk, e2⟩ := List.getElem?_eq_some_iff.1 e
  rw [take_snoc_l _ k hk, List.all_append, h1, e2]; simp [h2]
theorem litBody_not {s : ByteArray} {k : Nat} {p : UInt8 → Bool} (h : k + 1 < s.size - 1) (h2 : p s[k + 1] = false) : (litBody s).all p = false := by
  have e := litBody_at h
  rw [List.all_eq_false]
  exact ⟨_, List.mem_of_getElem? e, by simp [h2]⟩
theorem litBody_len (s : ByteArray) : (litBody s).length ≤ s.size - 2 := by unfold litBody; rw [List.length_take]; omega

set_option maxRecDepth 100000 in
set_option maxHeartbeats 2000000 in
theorem isLiteral_any (s : ByteArray) (ws : s.size ≤ maxLen) (w : World) :
    Calls Tryd.prog 45 #[.string s] w fun e w' => e = .returned (.bool (isLitS s)) ∧ Drawn w w' := by
  unfold maxLen at ws
  by_cases h2 : 2 ≤ s.size
  case neg =>
    have HF : Hid (isLitS s = false) := Lib.hid (by unfold isLitS; rw [dif_neg h2])
    have hd : decide ((s.size : Int) < 2) = true := by rw [decide_eq_true_eq]; omega
    clear h2
    go_enter Tryd.func45, Tryd.ntmps45
    go_wp2_with fail
    go_quiet (fail)
    go_wp2_with fail
    go_ret
    exact ⟨ret_bool HF.out.symm, ⟨_, rfl⟩⟩
  obtain ⟨n, hn⟩ : ∃ n, s.size = n + 1 := ⟨s.size - 1, by omega⟩
  have hd : decide ((n : Int) + 1 < 2) = false := by rw [decide_eq_false_iff_not]; omega
  have hi0 : (0 : Int) < (n : Int) + 1 := by omega
  have hi1 : (0 : Int) ≤ (n : Int) := by omega
  have hi2 : (n : Int) < (n : Int) + 1 := by omega
  have hi3 : n < s.size := by omega
  have hi4 : 0 < s.size := by omega
  have hw : IntKind.i64.wrap (n : Int) = (n : Int) := IntWalk.i64_in _ (by omega)
  have HD : Hid (isLitS s = ((s[0] == s[n] && (s[0] == 34 || s[0] == 96)) && (litBody s).all (litC s[0]))) := Lib.hid (by
    unfold isLitS
    rw [dif_pos h2]
    have e : s.size - 1 = n := by omega
    simp only [e])
  have HB : Hid (∀ k, ((litBody s).take (k + 1 - 1)).all (litC s[0]) = true → k + 1 = n → (litBody s).all (litC s[0]) = true) := Lib.hid (fun k h e => by
    have := litBody_len s
    rwa [List.take_of_length_le (by omega)] at h)
  have HSN : Hid (∀ j (h : j < n), 1 ≤ j → ((litBody s).take (j - 1)).all (litC s[0]) = true → litC s[0] (s[j]'(by omega)) = true → ((litBody s).take (j + 1 - 1)).all (litC s[0]) = true) := Lib.hid (fun j h h1 h3 h4 => by
    obtain ⟨k, rfl⟩ : ∃ k, j = k + 1 := ⟨j - 1, by omega⟩
    exact litBody_snoc (k := k) (by omega) h3 h4)
  have HNO : Hid (∀ j (h : j < n), 1 ≤ j → litC s[0] (s[j]'(by omega)) = false → (litBody s).all (litC s[0]) = false) := Lib.hid (fun j h h1 h4 => by
    obtain ⟨k, rfl⟩ : ∃ k, j = k + 1 := ⟨j - 1, by omega⟩
    exact litBody_not (k := k) (by omega) h4)
  have hnw : n ≤ 9223372036854775806 := by omega
  have HN1 : Hid (1 ≤ n) := Lib.hid (by omega)
  clear h2
  go_enter Tryd.func45, Tryd.ntmps45
  go_wp2_with fail
  generalize hx0 : s[0] = c0 at *
  have HX0 := Lib.hid hx0
  by_cases hqe : c0 = s[n]
  case neg =>
    have hq : ((c0.toNat : Int) != (s[n].toNat : Int)) = true := by rw [bne, byte_ne hqe]; rfl
    have HF : Hid (isLitS s = false) := Lib.hid (by rw [HD.out, show (c0 == s[n]) = false by simpa using hqe]; rfl)
    clear hqe HD HB HSN HNO
    go_quiet (fail)
    go_wp2_with fail
    go_ret
    exact ⟨ret_bool HF.out.symm, ⟨_, rfl⟩⟩
  have hq : ((c0.toNat : Int) != (s[n].toNat : Int)) = false := by rw [bne, byte_eq hqe]; rfl
  have HQE := Lib.hid hqe
  clear hqe
  by_cases hqq : c0 = 34 ∨ c0 = 96
  case neg =>
    have q1 : ((c0.toNat : Int) != 34) = true := by rw [bne, show ((c0.toNat : Int) == 34) = false from byte_ne (c := 34) (fun e => hqq (.inl e))]; rfl
    have q2 : ((c0.toNat : Int) != 96) = true := by rw [bne, show ((c0.toNat : Int) == 96) = false from byte_ne (c := 96) (fun e => hqq (.inr e))]; rfl
    have HF : Hid (isLitS s = false) := Lib.hid (by
      have e1 : (c0 == 34) = false := by simpa using fun e => hqq (.inl e)
      have e2 : (c0 == 96) = false := by simpa using fun e => hqq (.inr e)
      rw [HD.out, e1, e2]; simp)
    clear hqq HD HB HSN HNO
    go_quiet (fail)
    go_wp2_with fail
    go_ret
    exact ⟨ret_bool HF.out.symm, ⟨_, rfl⟩⟩
  have HD2 : Hid (isLitS s = (litBody s).all (litC c0)) := Lib.hid (by
    have e1 : (c0 == 34 || c0 == 96) = true := by simpa using hqq
    rw [HD.out, e1, show (c0 == s[n]) = true by simpa using HQE.out]; simp)
  clear HD
  have HQQ := Lib.hid hqq
  go_cut [27] from 7 (fun b wx => b = .bool false ∧ Drawn w wx)
  case first =>
    rcases HQQ.out with h | h
    · have q1 : ((c0.toNat : Int) != 34) = false := by rw [h]; rfl
      clear h hqq
      go_quiet (fail)
      go_wp2_with fail
      go_meet
      case rel => exact ⟨rfl, ⟨_, rfl⟩⟩
    · have q1 : ((c0.toNat : Int) != 34) = true := by rw [h]; rfl
      have q2 : ((c0.toNat : Int) != 96) = false := by rw [h]; rfl
      clear h hqq
      go_quiet (fail)
      go_wp2_with fail
      go_meet
      case rel => exact ⟨rfl, ⟨_, rfl⟩⟩
  case rest =>
    obtain ⟨rfl, hdr⟩ := hcut
    clear hqq hq
    go_wp2_with fail
    go_loopw [4] (fun i wr => ∃ j : Nat, 1 ≤ j ∧ j ≤ n ∧ i = .int .i64 (j : Nat) ∧ Drawn w wr ∧ ((litBody s).take (j - 1)).all (litC c0) = true) (fun i _ => n - (intOf i).toNat)
    case atStart => exact ⟨1, Nat.le_refl _, by have := HN1.out; omega, rfl, hdr, rfl⟩
    case round =>
      obtain ⟨j, hj1, hjn, rfl, hdr', hall⟩ := hrel
      have HA := Lib.hid hall
      clear hall
      by_cases hlt : j < n
      · have i1 : (0 : Int) ≤ (j : Int) := by omega
        have i2 : (j : Int) < (n : Int) + 1 := by omega
        have i3 : j < s.size := by omega
        have i4 : (j : Int) < (n : Int) := by omega
        generalize hxx : s[j]'(by omega) = x at *
        have HX := Lib.hid hxx
        by_cases d1 : x.toNat < 32
        · have e1 : decide ((x.toNat : Int) < 32) = true := by rw [decide_eq_true_eq]; omega
          have HL : Hid (litC c0 x = false) := Lib.hid (by unfold litC; rw [decide_eq_false (by omega : ¬ 32 ≤ x.toNat)]; simp)
          have HF := Lib.hid (HNO.out j hlt hj1 (by rw [HX.out]; exact HL.out))
          clear HL d1
          go_wp2_with fail
          go_quiet (fail)
          go_wp2_with fail
          go_ret
          exact ⟨ret_bool (by rw [HD2.out, HF.out]), hdr'.more _⟩
        have e1 : decide ((x.toNat : Int) < 32) = false := by rw [decide_eq_false_iff_not]; omega
        by_cases d2 : 126 < x.toNat
        · have e2 : decide ((126 : Int) < (x.toNat : Int)) = true := by rw [decide_eq_true_eq]; omega
          have HL : Hid (litC c0 x = false) := Lib.hid (by unfold litC; rw [decide_eq_false (by omega : ¬ x.toNat ≤ 126)]; simp)
          have HF := Lib.hid (HNO.out j hlt hj1 (by rw [HX.out]; exact HL.out))
          clear HL d2 d1
          go_wp2_with fail
          go_quiet (fail)
          go_wp2_with fail
          go_ret
          exact ⟨ret_bool (by rw [HD2.out, HF.out]), hdr'.more _⟩
        have e2 : decide ((126 : Int) < (x.toNat : Int)) = false := by rw [decide_eq_false_iff_not]; omega
        by_cases d3 : x = c0
        · have e3 : ((x.toNat : Int) == (c0.toNat : Int)) = true := byte_eq d3
          have HL : Hid (litC c0 x = false) := Lib.hid (by unfold litC; rw [show (x == c0) = true by simpa using d3]; simp)
          have HF := Lib.hid (HNO.out j hlt hj1 (by rw [HX.out]; exact HL.out))
          clear HL d3 d2 d1
          go_wp2_with fail
          go_quiet (fail)
          go_wp2_with fail
          go_ret
          exact ⟨ret_bool (by rw [HD2.out, HF.out]), hdr'.more _⟩
        have e3 : ((x.toNat : Int) == (c0.toNat : Int)) = false := byte_ne d3
        by_cases d4 : x = 92
        · have e4 : ((x.toNat : Int) == 92) = true := byte_eq (c := 92) d4
          have HL : Hid (litC c0 x = false) := Lib.hid (by unfold litC; rw [show (x == 92) = true by simpa using d4]; simp)
          have HF := Lib.hid (HNO.out j hlt hj1 (by rw [HX.out]; exact HL.out))
          clear HL d4 d3 d2 d1
          go_wp2_with fail
          go_quiet (fail)
          go_wp2_with fail
          go_ret
          exact ⟨ret_bool (by rw [HD2.out, HF.out]), hdr'.more _⟩
        have e4 : ((x.toNat : Int) == 92) = false := byte_ne (c := 92) d4
        have HL : Hid (litC c0 x = true) := Lib.hid (by
          unfold litC
          rw [decide_eq_true (by omega : 32 ≤ x.toNat), decide_eq_true (by omega : x.toNat ≤ 126), show (x == c0) = false by simpa using d3, show (x == 92) = false by simpa using d4]; rfl)
        have HS := Lib.hid (HSN.out j hlt hj1 HA.out (by rw [HX.out]; exact HL.out))
        clear HL d4 d3 d2 d1
        go_wp2_with fail
        go_quiet (fail)
        go_wp2_with fail
        go_roundw
        case rel => exact ⟨j + 1, by omega, by omega, by go_num, hdr'.more _, HS.out⟩
        case measure => simp [intOf]; omega
      · obtain rfl : j = n := by omega
        have HF := Lib.hid (HB.out (j - 1) (by rw [show j - 1 + 1 - 1 = j - 1 by omega]; exact HA.out) (by omega))
        go_wp2_with fail
        go_ret
        exact ⟨ret_bool (by rw [HD2.out, HF.out]), hdr'⟩

def isImp (n l : ByteArray) : Bool := (n.toList.isEmpty || (n.toList == [46] || isName n)) && isLitS l
theorem isImp_ok {n l : ByteArray} (h : isImp n l = true) : IsNm n.data.toList ∧ IsLit l.data.toList := by
  unfold isImp at h
  simp only [Bool.and_eq_true, Bool.or_eq_true] at h
  obtain ⟨h1, h2⟩ := h
  refine ⟨?_, isLit_of h2⟩
  rw [Lib.toList_data] at h1
  rcases h1 with h1 | h1 | h1
  · exact .inl (by simpa using h1)
  · exact .inr (.inl (by simpa using h1))
  · obtain ⟨c, r, e, h⟩ := name_parts h1
    exact .inr (.inr ⟨by rw [e]; simp, fun x hx => (h x (by rw [← e]; exact hx)).1⟩)
set_option maxHeartbeats 1000000 in
theorem isImport_any (n l : ByteArray) (wn : n.size ≤ maxLen) (wl : l.size ≤ maxLen) (w : World) :
    Calls Tryd.prog 30 #[.string n, .string l] w fun e w' => e = .returned (.bool (isImp n l)) ∧ Drawn w w' := by
  cases he : n.toList.isEmpty
  · cases hd : n.toList == [46]
    · cases hn : isName n
      · have HN := Lib.hid hn
        have HF : Hid (isImp n l = false) := Lib.hid (by unfold isImp; rw [he, hd, hn]; rfl)
        clear hn
        go_enter Tryd.func30, Tryd.ntmps30
        go_wp2_with fail
        refine (isName_any n wn _).mono ?_; rintro e w' ⟨rfl, rfl⟩; rw [HN.out]
        go_wp2_with fail
        go_ret
        exact ⟨ret_bool HF.out.symm, Drawn.refl _⟩
      · have HN := Lib.hid hn
        have HF : Hid (isImp n l = isLitS l) := Lib.hid (by unfold isImp; rw [he, hd, hn]; rfl)
        clear hn
        go_enter Tryd.func30, Tryd.ntmps30
        go_wp2_with fail
        refine (isName_any n wn _).mono ?_; rintro e w' ⟨rfl, rfl⟩; rw [HN.out]
        go_wp2_with fail
        refine (isLiteral_any l wl _).mono ?_; rintro e w' ⟨rfl, hdr⟩
        go_wp2_with fail
        go_ret
        exact ⟨ret_bool HF.out.symm, hdr⟩
    · have HF : Hid (isImp n l = isLitS l) := Lib.hid (by unfold isImp; rw [he, hd]; rfl)
      go_enter Tryd.func30, Tryd.ntmps30
      go_wp2_with fail
      refine (isLiteral_any l wl _).mono ?_; rintro e w' ⟨rfl, hdr⟩
      go_wp2_with fail
      go_ret
      exact ⟨ret_bool HF.out.symm, hdr⟩
  · have HF : Hid (isImp n l = isLitS l) := Lib.hid (by unfold isImp; rw [he]; rfl)
    go_enter Tryd.func30, Tryd.ntmps30
    go_wp2_with fail
    refine (isLiteral_any l wl _).mono ?_; rintro e w' ⟨rfl, hdr⟩
    go_wp2_with fail
    go_ret
    exact ⟨ret_bool HF.out.symm, hdr⟩

def impP (p : ByteArray × ByteArray) : Bool := isImp p.1 p.2
def areI (ns ls : List ByteArray) : Bool := (decide (ns.length = ls.length) && decide (ns.length ≤ 20)) && (ns.zip ls).all impP
theorem zip_snoc {ns ls : List ByteArray} {k : Nat} (h1 : k < ns.length) (h2 : k < ls.length) (h : ((ns.zip ls).take k).all impP = true) (hp : isImp ns[k] ls[k] = true) : ((ns.zip ls).take (k + 1)).all impP = true := by
  have hk : k < (ns.zip ls).length := by rw [List.length_zip]; omega
  rw [take_snoc_l _ k hk, List.all_append, h]
  simp [impP, hp]
theorem zip_not {ns ls : List ByteArray} {k : Nat} (h1 : k < ns.length) (h2 : k < ls.length) (hp : isImp ns[k] ls[k] = false) : areI ns ls = false := by
  have hk : k < (ns.zip ls).length := by rw [List.length_zip]; omega
  have : (ns.zip ls).all impP = false := by
    rw [List.all_eq_false]
    exact ⟨_, List.getElem_mem hk, by simp [impP, hp]⟩
  unfold areI
  rw [this]; simp
set_option maxHeartbeats 1000000 in
theorem areImports_any (A B : Option Addr) (ns ls : List ByteArray) (cap cap2 : Nat) (w : World) (hn : Strs w A ns) (hl : Strs w B ls) (cn : ns.length ≤ maxLen) (cl : ls.length ≤ maxLen) :
    Calls Tryd.prog 17 #[.slice A ns.length cap, .slice B ls.length cap2] w fun e w' => e = .returned (.bool (areI ns ls)) ∧ Drawn w w' := by
  unfold maxLen at cn cl
  go_enter Tryd.func17, Tryd.ntmps17
  go_wp2_with fail
  go_loopw [9] (fun i wr => ∃ k : Nat, k ≤ ns.length ∧ k ≤ ls.length ∧ i = .int .i64 k ∧ Drawn w wr ∧ ((ns.zip ls).take k).all impP = true) (fun i _ => ns.length - (intOf i).toNat)
  case atStart => exact ⟨0, Nat.zero_le _, Nat.zero_le _, rfl, Drawn.refl _, by simp⟩
  case round =>
    obtain ⟨k, hk, hk2, rfl, hdr, hall⟩ := hrel
    have HA := Lib.hid hall
    clear hall
    by_cases hlt : k < ns.length
    · by_cases hlt2 : k < ls.length
      · obtain ⟨b, off, rfl, hb, hc⟩ := (hdr.strs hn).2 (by omega)
        obtain ⟨b', off', rfl, hb', hc'⟩ := (hdr.strs hl).2 (by omega)
        have hck := hc k hlt
        have hck' := hc' k hlt2
        have w1 := hn.1 ns[k] (List.getElem_mem hlt)
        have w2 := hl.1 ls[k] (List.getElem_mem hlt2)
        have i0 : (0 : Int) ≤ (k : Int) := by omega
        have i1 : (k : Int) < (ns.length : Int) := by omega
        have i2 : (k : Int) < (ls.length : Int) := by omega
        have HS := Lib.hid (fun h => zip_snoc hlt hlt2 HA.out h)
        have HN := Lib.hid (fun h => zip_not hlt hlt2 h)
        clear hc hc' hn hl
        generalize ns[k] = x at *
        generalize ls[k] = y at *
        cases hi : isImp x y
        · have HI := Lib.hid hi
          clear hi
          go_wp2_with fail
          refine (isImport_any x y w1 w2 _).mono ?_; rintro e w' ⟨rfl, hd2⟩; rw [HI.out]
          go_wp2_with fail
          go_ret
          exact ⟨ret_bool (HN.out HI.out).symm, hdr.trans hd2⟩
        · have HI := Lib.hid hi
          clear hi
          go_wp2_with fail
          refine (isImport_any x y w1 w2 _).mono ?_; rintro e w' ⟨rfl, hd2⟩; rw [HI.out]
          go_wp2_with fail
          go_roundw
          case rel => exact ⟨k + 1, by omega, by omega, by go_num, hdr.trans hd2, HS.out HI.out⟩
          case measure => simp [intOf]; omega
      · obtain ⟨b, off, rfl, hb, hc⟩ := (hdr.strs hn).2 (by omega)
        have hck := hc k hlt
        have i0 : (0 : Int) ≤ (k : Int) := by omega
        have i1 : (k : Int) < (ns.length : Int) := by omega
        have i2 : (ls.length : Int) ≤ (k : Int) := by omega
        have HF : Hid (areI ns ls = false) := Lib.hid (by unfold areI; rw [decide_eq_false (by omega : ¬ ns.length = ls.length)]; simp)
        clear hc hn hl
        generalize ns[k] = x at *
        go_wp2_with fail
        go_ret
        exact ⟨ret_bool HF.out.symm, hdr⟩
    · obtain rfl : k = ns.length := by omega
      have HZ : Hid ((ns.zip ls).all impP = true) := Lib.hid (by
        have := HA.out
        rwa [List.take_of_length_le (by rw [List.length_zip]; omega)] at this)
      clear hn hl
      by_cases he : ns.length = ls.length
      · by_cases h20 : ns.length ≤ 20
        · have e1 : ((ns.length : Int) == (ls.length : Int)) = true := by rw [beq_iff_eq]; omega
          have e2 : decide ((ns.length : Int) ≤ 20) = true := by rw [decide_eq_true_eq]; omega
          have HF : Hid (areI ns ls = true) := Lib.hid (by unfold areI; rw [decide_eq_true he, decide_eq_true h20, HZ.out]; rfl)
          clear he h20
          go_wp2_with fail
          go_ret
          exact ⟨ret_bool HF.out.symm, hdr⟩
        · have e1 : ((ns.length : Int) == (ls.length : Int)) = true := by rw [beq_iff_eq]; omega
          have e2 : decide ((ns.length : Int) ≤ 20) = false := by rw [decide_eq_false_iff_not]; omega
          have HF : Hid (areI ns ls = false) := Lib.hid (by unfold areI; rw [decide_eq_false h20]; simp)
          clear he h20
          go_wp2_with fail
          go_ret
          exact ⟨ret_bool HF.out.symm, hdr⟩
      · have e1 : ((ns.length : Int) == (ls.length : Int)) = false := by rw [beq_eq_false_iff_ne]; omega
        have HF : Hid (areI ns ls = false) := Lib.hid (by unfold areI; rw [decide_eq_false he]; simp)
        clear he
        go_wp2_with fail
        go_ret
        exact ⟨ret_bool HF.out.symm, hdr⟩

/-! ### follows -/
def foll (s : ByteArray) : Bool := s.toList.isEmpty || (asc s && (isLet (s.data.toList.headD 0) && !(s.data.toList.headD 0 == 105)))
theorem foll_ok {s : ByteArray} (h : foll s = true) : Foll s.data.toList ∧ ∀ b ∈ s.data.toList, b.toNat ≤ 127 := by
  unfold foll at h
  simp only [Bool.or_eq_true, Bool.and_eq_true] at h
  rcases h with h | ⟨h1, h2, h3⟩
  · rw [Lib.toList_data] at h
    have : s.data.toList = [] := by simpa using h
    rw [this]
    exact ⟨.inl rfl, fun b hb => by cases hb⟩
  · refine ⟨?_, asc_list h1⟩
    cases hl : s.data.toList with
    | nil => exact .inl rfl
    | cons a r =>
      rw [hl] at h2 h3
      refine .inr ⟨a, r, rfl, stp_id (let_id h2), ?_⟩
      intro e
      rw [e] at h3
      simp at h3
set_option maxHeartbeats 1000000 in
theorem follows_any (s : ByteArray) (ws : s.size ≤ maxLen) (w : World) :
    Calls Tryd.prog 18 #[.string s] w fun e w' => e = .returned (.bool (foll s)) ∧ w = w' := by
  cases hem : s.toList.isEmpty
  case true =>
    have HF : Hid (foll s = true) := Lib.hid (by unfold foll; rw [hem]; rfl)
    go_enter Tryd.func18, Tryd.ntmps18
    go_wp2_with fail
    go_ret
    exact ⟨ret_bool HF.out.symm, rfl⟩
  have hpos : 0 < s.size := by
    rw [Lib.toList_data] at hem
    rw [size_list]
    cases hq : s.data.toList with
    | nil => rw [hq] at hem; simp at hem
    | cons a r => simp
  have hh : s.data.toList.headD 0 = s[0] := by
    obtain ⟨r, e⟩ := at0 hpos
    rw [e]; rfl
  have HD : Hid (foll s = (asc s && (isLet s[0] && !(s[0] == 105)))) := Lib.hid (by unfold foll; rw [hem, hh]; rfl)
  clear hh
  cases ha : asc s
  · have HA := Lib.hid ha
    have HF : Hid (foll s = false) := Lib.hid (by rw [HD.out, ha]; rfl)
    clear ha
    go_enter Tryd.func18, Tryd.ntmps18
    go_wp2_with fail
    refine (isASCII_any s ws _).mono ?_; rintro e w' ⟨rfl, rfl⟩; rw [HA.out]
    go_wp2_with fail
    go_ret
    exact ⟨ret_bool HF.out.symm, rfl⟩
  have HA := Lib.hid ha
  clear ha
  cases hl : isLet s[0]
  · have HL := Lib.hid hl
    have HF : Hid (foll s = false) := Lib.hid (by rw [HD.out, hl]; simp)
    clear hl
    go_enter Tryd.func18, Tryd.ntmps18
    go_wp2_with fail
    refine (isASCII_any s ws _).mono ?_; rintro e w' ⟨rfl, rfl⟩; rw [HA.out]
    go_wp2_with fail
    refine (isLetter_any s[0] _ rfl _).mono ?_; rintro e w' ⟨rfl, rfl⟩; rw [HL.out]
    go_wp2_with fail
    go_ret
    exact ⟨ret_bool HF.out.symm, rfl⟩
  have HL := Lib.hid hl
  by_cases h105 : s[0] = 105
  · have e1 : ((s[0].toNat : Int) != 105) = false := by rw [bne, show ((s[0].toNat : Int) == 105) = true from byte_eq (c := 105) h105]; rfl
    have HF : Hid (foll s = false) := Lib.hid (by rw [HD.out, show (s[0] == 105) = true by simpa using h105]; simp)
    clear hl h105
    go_enter Tryd.func18, Tryd.ntmps18
    go_wp2_with fail
    refine (isASCII_any s ws _).mono ?_; rintro e w' ⟨rfl, rfl⟩; rw [HA.out]
    go_wp2_with fail
    refine (isLetter_any s[0] _ rfl _).mono ?_; rintro e w' ⟨rfl, rfl⟩; rw [HL.out]
    go_wp2_with fail
    go_ret
    exact ⟨ret_bool HF.out.symm, rfl⟩
  · have e1 : ((s[0].toNat : Int) != 105) = true := by rw [bne, show ((s[0].toNat : Int) == 105) = false from byte_ne (c := 105) h105]; rfl
    have HF : Hid (foll s = true) := Lib.hid (by rw [HD.out, HA.out, hl, show (s[0] == 105) = false by simpa using h105]; rfl)
    clear hl h105
    go_enter Tryd.func18, Tryd.ntmps18
    go_wp2_with fail
    refine (isASCII_any s ws _).mono ?_; rintro e w' ⟨rfl, rfl⟩; rw [HA.out]
    go_wp2_with fail
    refine (isLetter_any s[0] _ rfl _).mono ?_; rintro e w' ⟨rfl, rfl⟩; rw [HL.out]
    go_wp2_with fail
    go_ret
    exact ⟨ret_bool HF.out.symm, rfl⟩
end Go.Proofs.YtgplcbobomainaaDoor
