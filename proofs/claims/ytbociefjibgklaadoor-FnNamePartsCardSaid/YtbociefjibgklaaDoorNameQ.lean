/-
  Names made of a word, a system and a machine: the plain law; IsName; mod; Systems; Machines.
-/
import Derived.Test.YtbociefjibgklaaDoorNameLaw
import Derived.IntWalk
namespace Go.Proofs.YtbociefjibgklaaDoor
open Go.RowKit
set_option linter.unusedVariables false
set_option linter.unusedSimpArgs false

theorem spl_app (c : UInt8) (b : List UInt8) : ∀ a : List UInt8, spl c (a ++ c :: b) = spl c a ++ spl c b
  | [] => by
    rw [List.nil_append]
    show spl c (c :: b) = [[]] ++ spl c b
    simp [spl]
  | x :: r => by
    rw [List.cons_append, spl, spl, spl_app c b r]
    split
    · rfl
    · have := spl_ne c r
      cases h : spl c r with
      | nil => exact absurd h this
      | cons y t => rfl
theorem spl_one {c : UInt8} : ∀ {l : List UInt8}, (l.all fun x => !(x == c)) = true → spl c l = [l]
  | [], _ => rfl
  | x :: r, h => by
    rw [List.all_cons, Bool.and_eq_true] at h
    have hx : x ≠ c := by rintro rfl; simp at h
    rw [spl, if_neg hx, spl_one h.2]
    rfl

def isName (t : ByteArray) : Bool := t.data.toList.all isWord && (!t.toList.isEmpty && !(isDig (t.data.toList.headD 0)))
theorem isName_word {t : ByteArray} (h : isName t = true) : t.data.toList.all isWord = true := by
  unfold isName at h
  exact (Bool.and_eq_true _ _ ▸ h).1
theorem word_nodot {l : List UInt8} (h : l.all isWord = true) : (l.all fun x => !(x == 46)) = true := by
  rw [List.all_eq_true] at h ⊢
  intro x hx
  have := h x hx
  cases he : x == 46
  · rfl
  · rw [beq_iff_eq] at he
    subst he
    exact absurd this (by decide)

/-- The name of a file. -/
def nameL (W O R T : List UInt8) : List UInt8 := W ++ 95 :: O ++ 95 :: R ++ T
theorem osKeys_clean : (osKeys.all fun k => (k.all fun x => !(x == 46)) && (k.all fun x => !(x == 95))) = true := by decide +kernel
theorem arKeys_clean : (arKeys.all fun k => (k.all fun x => !(x == 46)) && (k.all fun x => !(x == 95)) && !(k == testL)) = true := by decide +kernel

theorem stem_dot {l t : List UInt8} (h : (l.all fun x => !(x == 46)) = true) : stem (l ++ 46 :: t) = l := by
  unfold stem
  rw [spl_app, spl_one h]; rfl
theorem stem_none {l : List UInt8} (h : (l.all fun x => !(x == 46)) = true) : stem l = l := by
  unfold stem
  rw [spl_one h]; rfl

theorem implied_two {X : List (List UInt8)} {O R : List UInt8} (hX : X ≠ []) (hO : osKeys.contains O = true) (hR : arKeys.contains R = true) : implied (X ++ [O, R]) = [O, R] := by
  have hl := List.length_pos_iff.2 hX
  have e1 : (X ++ [O, R]).length = X.length + 2 := by simp
  have e2 : (X ++ [O, R]).getD (X.length + 1) [] = R := by
    rw [List.getD_eq_getElem?_getD, List.getElem?_append_right (by omega)]
    rw [show X.length + 1 - X.length = 1 by omega]; rfl
  have e3 : (X ++ [O, R]).getD X.length [] = O := by
    rw [List.getD_eq_getElem?_getD, List.getElem?_append_right (by omega)]
    rw [show X.length - X.length = 0 by omega]; rfl
  unfold implied
  simp only [e1]
  rw [show X.length + 2 - 1 = X.length + 1 by omega, show X.length + 2 - 2 = X.length by omega, e2, e3, hO, hR, if_neg (by omega), if_pos (by simp; omega)]

theorem dropT_two {X : List (List UInt8)} {O R : List UInt8} (hR : (R == testL) = false) : dropT (X ++ [O, R]) = X ++ [O, R] := by
  unfold dropT
  rw [if_neg]
  rintro ⟨h1, h2⟩
  have e1 : (X ++ [O, R]).length = X.length + 2 := by simp
  rw [e1, show X.length + 2 - 1 = X.length + 1 by omega, List.getD_eq_getElem?_getD, List.getElem?_append_right (by omega), show X.length + 1 - X.length = 1 by omega] at h2
  have : R = testL := h2
  rw [this] at hR
  simp at hR
theorem dropT_test (X : List (List UInt8)) (O R : List UInt8) : dropT (X ++ [O, R] ++ [testL]) = X ++ [O, R] := by
  unfold dropT
  have e1 : (X ++ [O, R] ++ [testL]).length = (X ++ [O, R]).length + 1 := by simp
  rw [e1, Nat.add_sub_cancel, if_pos]
  · exact List.take_left
  · refine ⟨by simp, ?_⟩
    rw [List.getD_eq_getElem?_getD, List.getElem?_append_right (Nat.le_refl _), Nat.sub_self]; rfl

/-- The words of a name: with or without _test. -/
theorem implied_name {W O R T L : List UInt8} (hO : osKeys.contains O = true) (hR : arKeys.contains R = true) (hT : T = [] ∨ T = 95 :: testL) (hs : stem L = nameL W O R T) :
    implied (wordsOf L) = [O, R] := by
  have hO' := List.all_eq_true.1 osKeys_clean _ (List.contains_iff_mem.1 hO)
  have hR' := List.all_eq_true.1 arKeys_clean _ (List.contains_iff_mem.1 hR)
  simp only [Bool.and_eq_true, Bool.not_eq_true'] at hO' hR'
  have hX := spl_ne 95 W
  have h1 : spl 95 (W ++ 95 :: O) = spl 95 W ++ [O] := by rw [spl_app, spl_one hO'.2]
  have h2 : spl 95 (W ++ 95 :: O ++ 95 :: R) = spl 95 W ++ [O, R] := by rw [spl_app, h1, spl_one hR'.1.2]; simp
  have ht : spl 95 testL = [testL] := spl_one (by decide)
  unfold wordsOf
  rw [hs]
  unfold nameL
  rcases hT with rfl | rfl
  · rw [List.append_nil, h2, dropT_two hR'.2]
    exact implied_two hX hO hR
  · rw [spl_app, h2, ht, dropT_test]
    exact implied_two hX hO hR

theorem nameL_nodot {W O R T : List UInt8} (hW : (W.all fun x => !(x == 46)) = true) (hO : osKeys.contains O = true) (hR : arKeys.contains R = true) (hT : T = [] ∨ T = 95 :: testL) : ((nameL W O R T).all fun x => !(x == 46)) = true := by
  have hO' := List.all_eq_true.1 osKeys_clean _ (List.contains_iff_mem.1 hO)
  have hR' := List.all_eq_true.1 arKeys_clean _ (List.contains_iff_mem.1 hR)
  simp only [Bool.and_eq_true, Bool.not_eq_true'] at hO' hR'
  have hTT : (T.all fun x => !(x == 46)) = true := by
    rcases hT with rfl | rfl
    · rfl
    · decide
  unfold nameL
  simp only [List.all_append, List.all_cons, hW, hO'.1, hR'.1.1, hTT, Bool.and_true, Bool.true_and]
  decide

/-- Settings of a law: a system and a machine, else nothing. -/
def bare (o r : ByteArray) : Stg := { os := o, ar := r, co := ⟨#[]⟩, cgo := false, s1 := [], s2 := [], s3 := [], A1 := none, A2 := none, A3 := none, c1 := 0, c2 := 0, c3 := 0 }
def noneB : ByteArray := ⟨#[110, 111, 110, 101]⟩

theorem met_os (S : Stg) : met unixKeys S S.os = true := by
  unfold met
  simp
theorem met_ar (S : Stg) : met unixKeys S S.ar = true := by
  unfold met
  simp
def clashB (O R : List UInt8) : Bool := !(met unixKeys (bare noneB (BL R)) (BL O)) && !(met unixKeys (bare (BL O) noneB) (BL R))
theorem clash_all : (osKeys.all fun o => arKeys.all fun r => clashB o r) = true := by decide +kernel
theorem clash {O R : List UInt8} (hO : osKeys.contains O = true) (hR : arKeys.contains R = true) : met unixKeys (bare noneB (BL R)) (BL O) = false ∧ met unixKeys (bare (BL O) noneB) (BL R) = false := by
  have h1 := List.all_eq_true.1 clash_all _ (List.contains_iff_mem.1 hO)
  have h2 := List.all_eq_true.1 h1 _ (List.contains_iff_mem.1 hR)
  unfold clashB at h2
  simpa using h2

theorem fits_name {S : Stg} {L : List UInt8} {O R : List UInt8} (h : implied (wordsOf L) = [O, R]) : fitsN S L = (met unixKeys S (BL O) && met unixKeys S (BL R)) := by
  unfold fitsN
  rw [h]
  simp only [List.all_cons, List.all_nil, Bool.and_true]

/-- IsName. -/
theorem isName_any (s : ByteArray) (ws : s.size ≤ maxLen) (w : World) :
    Calls Tryd.prog 16 #[.string s] w fun e w' => e = .returned (.bool (isName s)) ∧ w = w' := by
  unfold maxLen at ws
  go_enter Tryd.func16, Tryd.ntmps16
  go_wp2
  go_loop [6] (fun i => ∃ k : Nat, k ≤ s.size ∧ i = .int .i64 k ∧ (s.data.toList.take k).all isWord = true) (fun i => s.size - (intOf i).toNat)
  case atStart => exact ⟨0, Nat.zero_le _, rfl, by simp⟩
  case round =>
    obtain ⟨k, hk, rfl, hall⟩ := hrel
    have HA := Lib.hid hall; clear hall
    by_cases hlt : k < s.size
    · cases hl : isWord s[k]
      · have HL := Lib.hid hl; clear hl
        go_wp2_with (go_at_call 20; refine (isWordByte_any s[k] _ rfl _).mono ?_; rintro e w' ⟨rfl, rfl⟩; rw [HL.out])
        go_ret
        exact ⟨ret_bool (by unfold isName; rw [all_not hlt HL.out]; rfl), rfl⟩
      · have HL := Lib.hid hl; clear hl
        go_wp2_with (go_at_call 20; refine (isWordByte_any s[k] _ rfl _).mono ?_; rintro e w' ⟨rfl, rfl⟩; rw [HL.out])
        go_round
        case rel => exact ⟨k + 1, by omega, by go_num, all_snoc hlt HA.out HL.out⟩
        case measure => simp [intOf]; omega
    · have HW := Lib.hid (all_whole (by omega) HA.out)
      rcases Nat.eq_zero_or_pos s.size with h0 | h0
      · obtain rfl : s = ByteArray.empty := by
          cases s with | mk d => cases d with | mk l => cases l with | nil => rfl | cons a t => simp [ByteArray.size] at h0
        clear HW HA
        go_wp2
        go_ret
        exact ⟨ret_bool (by decide +kernel), rfl⟩
      · have he : s.toList.isEmpty = false := by
          rw [Lib.toList_data]
          cases hl : s.data.toList with
          | nil => rw [size_list, hl] at h0; simp at h0
          | cons a t => rfl
        have hh : s.data.toList.headD 0 = s[0] := by
          have := List.getElem?_eq_getElem (l := s.data.toList) (i := 0) (by rw [← size_list]; exact h0)
          rw [List.headD_eq_head?_getD, List.head?_eq_getElem?, this]
          rfl
        have HH := Lib.hid hh
        have HE := Lib.hid he
        clear hh HA
        go_wp2_with (go_at_call 28; refine (isDigit_any s[0] _ rfl _).mono ?_; rintro e w' ⟨rfl, rfl⟩)
        go_ret
        exact ⟨ret_bool (by unfold isName; rw [HW.out, HE.out, HH.out]; simp), rfl⟩

/-- mod. -/
def modN (i : Int) (n : Nat) : Nat := (i % (n : Int)).toNat
theorem modN_lt (i : Int) {n : Nat} (h : 0 < n) : modN i n < n := by
  unfold modN
  have h1 := Int.emod_nonneg i (show (n : Int) ≠ 0 by omega)
  have h2 := Int.emod_lt_of_pos i (show (0 : Int) < (n : Int) by omega)
  omega
theorem mod_any (i : Int) (n : Nat) (h0 : 0 < n) (hn : n ≤ 1000) (w : World) :
    Calls Tryd.prog 18 #[.int .i64 i, .int .i64 n] w fun e w' => e = .returned (.int .i64 (modN i n)) ∧ w = w' := by
  have e1 : ((n : Int) == 0) = false := by rw [beq_eq_false_iff_ne]; omega
  have h1 := Int.emod_nonneg i (show (n : Int) ≠ 0 by omega)
  have h2 := Int.emod_lt_of_pos i (show (0 : Int) < (n : Int) by omega)
  have HV : Hid ((i.tmod n + n) % (n : Int) = (modN i n : Int)) := Lib.hid <| by
    unfold modN
    rw [Int.toNat_of_nonneg h1]
    have h3 := Int.tmod_lt_of_pos i (show (0 : Int) < (n : Int) by omega)
    have h4 := Int.lt_tmod_of_pos i (show (0 : Int) < (n : Int) by omega)
    rw [Int.add_emod_right]
    have e : i = n * i.tdiv n + i.tmod n := (Int.mul_tdiv_add_tmod i n).symm
    have e2 : i % (n : Int) = (n * i.tdiv n + i.tmod n) % (n : Int) := by rw [← e]
    rw [e2, Int.mul_add_emod_self_left]
  have hw3 := Int.tmod_lt_of_pos i (show (0 : Int) < (n : Int) by omega)
  have hw4 := Int.lt_tmod_of_pos i (show (0 : Int) < (n : Int) by omega)
  clear h1 h2
  go_enter Tryd.func18, Tryd.ntmps18
  go_wp2
  go_ret
  exact ⟨ret_int HV.out, rfl⟩
end Go.Proofs.YtbociefjibgklaaDoor
