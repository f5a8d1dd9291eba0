/-
  Helpers of the laws over written files: zzFits2, HasByte, IsLetter, IsName, mod, Gaps, AreLines, Comments.
-/
import Derived.Test.YtgplcbobomainaaDoorLwC
import Derived.Test.YtgplcbobomainaaDoorInts
namespace Go.Proofs.YtgplcbobomainaaDoor
open Go.RowKit
set_option linter.unusedVariables false
set_option linter.unusedSimpArgs false

def BA (l : List UInt8) : ByteArray := ⟨l.toArray⟩
theorem BA_data (l : List UInt8) : (BA l).data.toList = l := by unfold BA; simp
theorem BA_size (l : List UInt8) : (BA l).size = l.length := by rw [size_list, BA_data]
theorem below_new (w : World) (o : Obj) : Below w.heap.size w (w.alloc o) := (Below.refl _ _).alloc (Nat.le_refl _) _

/-- The texts fit: no list and no text is longer than 2147483647. -/
def fits2 (ss : List ByteArray) : Bool := decide (ss.length ≤ 2147483647) && ss.all fun s => decide (s.size ≤ 2147483647)

theorem lall_snoc {α : Type} {p : α → Bool} {s : List α} {k : Nat} (h : k < s.length) (h1 : (s.take k).all p = true) (h2 : p s[k] = true) : (s.take (k + 1)).all p = true := by
  rw [take_snoc_l s k h, List.all_append, h1]; simp [h2]
theorem lall_not {α : Type} {p : α → Bool} {s : List α} {k : Nat} (h : k < s.length) (h2 : p s[k] = false) : s.all p = false := by
  rw [List.all_eq_false]
  exact ⟨_, List.getElem_mem h, by simp [h2]⟩
theorem lall_whole {α : Type} {p : α → Bool} {s : List α} {k : Nat} (h : s.length ≤ k) (h1 : (s.take k).all p = true) : s.all p = true := by
  rwa [List.take_of_length_le h] at h1

theorem fits2_any (A : Option Addr) (ss : List ByteArray) (cap : Nat) (w : World) (hs : Strs w A ss) (hl : ss.length ≤ maxLen) :
    Calls Tryd.prog 15 #[.slice A ss.length cap] w fun e w' => e = .returned (.bool (fits2 ss)) ∧ w = w' := by
  unfold maxLen at hl
  by_cases hbig : ss.length ≤ 2147483647
  · have HE : Hid (fits2 ss = ss.all fun s => decide (s.size ≤ 2147483647)) := Lib.hid <| by unfold fits2; rw [decide_eq_true hbig]; simp
    go_enter Tryd.func15, Tryd.ntmps15
    go_wp2
    go_loop [10] (fun i => ∃ k : Nat, k ≤ ss.length ∧ i = .int .i64 k ∧ ((ss.take k).all fun s => decide (s.size ≤ 2147483647)) = true) (fun i => ss.length - (intOf i).toNat)
    case atStart => exact ⟨0, Nat.zero_le _, rfl, by simp⟩
    case round =>
      obtain ⟨k, hk, rfl, hall⟩ := hrel
      have HA := Lib.hid hall; clear hall
      by_cases hlt : k < ss.length
      · obtain ⟨b, off, rfl, hb, hc⟩ := hs.2 (by omega)
        have hck := hc k hlt
        have hsz : ss[k].size ≤ 9223372036854775807 := by have := hs.1 ss[k] (List.getElem_mem hlt); unfold maxLen at this; omega
        clear hc hs
        generalize hx : ss[k] = x at *
        have HX := Lib.hid hx; clear hx
        by_cases hx : x.size ≤ 2147483647
        · go_wp2
          go_round
          case rel => exact ⟨k + 1, by omega, by go_num, lall_snoc hlt HA.out (by rw [HX.out]; simpa using hx)⟩
          case measure => simp [intOf]; omega
        · go_wp2
          go_ret
          exact ⟨ret_bool (by rw [HE.out, lall_not hlt (by rw [HX.out]; simpa using hx)]), rfl⟩
      · go_wp2
        go_ret
        exact ⟨ret_bool (by rw [HE.out]; exact (lall_whole (by omega) HA.out).symm), rfl⟩
  · have HE : Hid (fits2 ss = false) := Lib.hid <| by unfold fits2; rw [decide_eq_false hbig]; simp
    go_enter Tryd.func15, Tryd.ntmps15
    go_wp2
    go_ret
    exact ⟨ret_bool HE.out.symm, rfl⟩

theorem fits2_each {ss : List ByteArray} (h : fits2 ss = true) : ss.length ≤ 2147483647 ∧ ∀ s ∈ ss, s.size ≤ 2147483647 := by
  unfold fits2 at h
  simp only [Bool.and_eq_true, decide_eq_true_eq] at h
  exact ⟨h.1, fun s hs => by simpa using List.all_eq_true.1 h.2 s hs⟩
def hasB (s : ByteArray) (c : UInt8) : Bool := s.data.toList.any fun b => b == c
theorem hasB_yes {s : ByteArray} {c : UInt8} {k : Nat} (h : k < s.size) (e : s[k] = c) : hasB s c = true := by
  unfold hasB
  rw [List.any_eq_true]
  exact ⟨_, mem_at s k h, by simp [e]⟩
theorem hasB_no {s : ByteArray} {c : UInt8} {k : Nat} (hk : s.size ≤ k) (h : ((s.data.toList.take k).all fun b => !(b == c)) = true) : hasB s c = false := by
  unfold hasB
  rw [List.any_eq_false]
  intro b hb
  simpa using List.all_eq_true.1 (all_whole hk h) b hb
theorem hasByte_any (s : ByteArray) (n : Int) (c : UInt8) (hn : n = (c.toNat : Int)) (ws : s.size ≤ maxLen) (w : World) :
    Calls Tryd.prog 29 #[.string s, .int .u8 n] w fun e w' => e = .returned (.bool (hasB s c)) ∧ w = w' := by
  unfold maxLen at ws
  subst hn
  go_enter Tryd.func29, Tryd.ntmps29
  go_wp2
  go_loop [8] (fun i => ∃ k : Nat, k ≤ s.size ∧ i = .int .i64 k ∧ ((s.data.toList.take k).all fun b => !(b == c)) = true) (fun i => s.size - (intOf i).toNat)
  case atStart => exact ⟨0, Nat.zero_le _, rfl, by simp⟩
  case round =>
    obtain ⟨k, hk, rfl, hall⟩ := hrel
    have HA := Lib.hid hall; clear hall
    by_cases hlt : k < s.size
    · by_cases hb : s[k] = c
      · have HB := Lib.hid hb
        have e0 : ((s[k].toNat : Int) == (c.toNat : Int)) = true := by simp [hb]
        clear hb
        go_wp2
        go_ret
        exact ⟨ret_bool (hasB_yes hlt HB.out).symm, rfl⟩
      · have HB := Lib.hid hb
        have e0 : ((s[k].toNat : Int) == (c.toNat : Int)) = false := by
          simp; intro h; exact hb (UInt8.toNat_inj.1 (by omega))
        clear hb
        go_wp2
        go_round
        case rel => exact ⟨k + 1, by omega, by go_num, all_snoc hlt HA.out (by simpa using HB.out)⟩
        case measure => simp [intOf]; omega
    · go_wp2
      go_ret
      exact ⟨ret_bool (hasB_no (by omega) HA.out).symm, rfl⟩

def isLet (b : UInt8) : Bool := (decide (97 ≤ b.toNat) && decide (b.toNat ≤ 122)) || (decide (65 ≤ b.toNat) && decide (b.toNat ≤ 90))
def isDig (b : UInt8) : Bool := decide (48 ≤ b.toNat) && decide (b.toNat ≤ 57)
def isWord (b : UInt8) : Bool := isLet b || isDig b || b == 95
theorem isLetter_any (b : UInt8) (n : Int) (hn : n = (b.toNat : Int)) (w : World) :
    Calls Tryd.prog 23 #[.int .u8 n] w fun e w' => e = .returned (.bool (isLet b)) ∧ w = w' := by
  subst hn
  have hb : b.toNat < 256 := b.toNat_lt
  by_cases h1 : 97 ≤ b.toNat
  · by_cases h2 : b.toNat ≤ 122
    · go_enter Tryd.func23, Tryd.ntmps23
      go_wp2
      go_ret
      exact ⟨ret_bool (by unfold isLet; rw [Bool.eq_iff_iff]; simp; omega), rfl⟩
    · go_enter Tryd.func23, Tryd.ntmps23
      go_wp2
      go_ret
      exact ⟨ret_bool (by unfold isLet; rw [Bool.eq_iff_iff]; simp; omega), rfl⟩
  · by_cases h3 : 65 ≤ b.toNat
    · go_enter Tryd.func23, Tryd.ntmps23
      go_wp2
      go_ret
      exact ⟨ret_bool (by unfold isLet; rw [Bool.eq_iff_iff]; simp; omega), rfl⟩
    · go_enter Tryd.func23, Tryd.ntmps23
      go_wp2
      go_ret
      exact ⟨ret_bool (by unfold isLet; simp; omega), rfl⟩
theorem isDigit_any (b : UInt8) (n : Int) (hn : n = (b.toNat : Int)) (w : World) :
    Calls Tryd.prog 34 #[.int .u8 n] w fun e w' => e = .returned (.bool (isDig b)) ∧ w = w' := by
  subst hn
  have hb : b.toNat < 256 := b.toNat_lt
  by_cases h1 : 48 ≤ b.toNat
  · go_enter Tryd.func34, Tryd.ntmps34
    go_wp2
    go_ret
    exact ⟨ret_bool (by unfold isDig; rw [Bool.eq_iff_iff]; simp; omega), rfl⟩
  · go_enter Tryd.func34, Tryd.ntmps34
    go_wp2
    go_ret
    exact ⟨ret_bool (by unfold isDig; simp; omega), rfl⟩
theorem isWordByte_any (b : UInt8) (n : Int) (hn : n = (b.toNat : Int)) (w : World) :
    Calls Tryd.prog 33 #[.int .u8 n] w fun e w' => e = .returned (.bool (isWord b)) ∧ w = w' := by
  subst hn
  go_enter Tryd.func33, Tryd.ntmps33
  go_wp2_with fail
  refine (isLetter_any b _ rfl _).mono ?_; rintro e w' ⟨rfl, rfl⟩
  cases hl : isLet b
  · have HL := Lib.hid hl; clear hl
    go_wp2_with fail
    refine (isDigit_any b _ rfl _).mono ?_; rintro e w' ⟨rfl, rfl⟩
    cases hd : isDig b
    · have HD := Lib.hid hd; clear hd
      by_cases hu : b = 95
      · have e0 : ((b.toNat : Int) == 95) = true := by subst hu; rfl
        have HE : Hid (isWord b = true) := Lib.hid <| by unfold isWord; simp [hu]
        clear hu
        go_wp2_with fail
        go_ret
        exact ⟨ret_bool HE.out.symm, rfl⟩
      · have e0 : ((b.toNat : Int) == 95) = false := by simp; intro h; exact hu (UInt8.toNat_inj.1 (by simpa using (by omega : b.toNat = 95)))
        have HE : Hid (isWord b = false) := Lib.hid <| by unfold isWord; rw [HL.out, HD.out]; simp [hu]
        clear hu
        go_wp2_with fail
        go_ret
        exact ⟨ret_bool HE.out.symm, rfl⟩
    · have HE : Hid (isWord b = true) := Lib.hid <| by unfold isWord; simp [hd]
      clear hd
      go_wp2_with fail
      go_ret
      exact ⟨ret_bool HE.out.symm, rfl⟩
  · have HE : Hid (isWord b = true) := Lib.hid <| by unfold isWord; simp [hl]
    clear hl
    go_wp2_with fail
    go_ret
    exact ⟨ret_bool HE.out.symm, rfl⟩

def isName (t : ByteArray) : Bool := t.data.toList.all isWord && (!t.toList.isEmpty && !(isDig (t.data.toList.headD 0)))
/-- IsName. -/
theorem isName_any (s : ByteArray) (ws : s.size ≤ maxLen) (w : World) :
    Calls Tryd.prog 21 #[.string s] w fun e w' => e = .returned (.bool (isName s)) ∧ w = w' := by
  unfold maxLen at ws
  go_enter Tryd.func21, Tryd.ntmps21
  go_wp2
  go_loop [6] (fun i => ∃ k : Nat, k ≤ s.size ∧ i = .int .i64 k ∧ (s.data.toList.take k).all isWord = true) (fun i => s.size - (intOf i).toNat)
  case atStart => exact ⟨0, Nat.zero_le _, rfl, by simp⟩
  case round =>
    obtain ⟨k, hk, rfl, hall⟩ := hrel
    have HA := Lib.hid hall; clear hall
    by_cases hlt : k < s.size
    · cases hl : isWord s[k]
      · have HL := Lib.hid hl; clear hl
        go_wp2_with (go_at_call 33; refine (isWordByte_any s[k] _ rfl _).mono ?_; rintro e w' ⟨rfl, rfl⟩; rw [HL.out])
        go_ret
        exact ⟨ret_bool (by unfold isName; rw [all_not hlt HL.out]; rfl), rfl⟩
      · have HL := Lib.hid hl; clear hl
        go_wp2_with (go_at_call 33; refine (isWordByte_any s[k] _ rfl _).mono ?_; rintro e w' ⟨rfl, rfl⟩; rw [HL.out])
        go_round
        case rel => exact ⟨k + 1, by omega, by go_num, all_snoc hlt HA.out HL.out⟩
        case measure => simp [intOf]; omega
    · have HW := Lib.hid (all_whole (by omega) HA.out)
      rcases Nat.eq_zero_or_pos s.size with h0 | h0
      · obtain rfl : s = ByteArray.empty := by
          cases s with | mk d => cases d with | mk l => cases l with | nil => rfl | cons a t => simp [ByteArray.size] at h0
        clear HW HA
        go_wp2
        go_ret
        exact ⟨ret_bool (by decide +kernel), rfl⟩
      · have he : s.toList.isEmpty = false := by
          rw [Lib.toList_data]
          cases hl : s.data.toList with
          | nil => rw [size_list, hl] at h0; simp at h0
          | cons a t => rfl
        have hh : s.data.toList.headD 0 = s[0] := by
          have := List.getElem?_eq_getElem (l := s.data.toList) (i := 0) (by rw [← size_list]; exact h0)
          rw [List.headD_eq_head?_getD, List.head?_eq_getElem?, this]
          rfl
        have HH := Lib.hid hh
        have HE := Lib.hid he
        clear hh HA
        go_wp2_with (go_at_call 34; refine (isDigit_any s[0] _ rfl _).mono ?_; rintro e w' ⟨rfl, rfl⟩)
        go_ret
        exact ⟨ret_bool (by unfold isName; rw [HW.out, HE.out, HH.out]; simp), rfl⟩

def gapsL : List ByteArray := [⟨#[32]⟩, ⟨#[9]⟩, ⟨#[32, 47, 42, 32, 97, 59, 32, 34, 98, 34, 32, 42, 47, 32]⟩, ⟨#[10]⟩, ⟨#[59, 32]⟩, ⟨#[32, 47, 47, 32, 99, 32, 39, 100, 39, 10]⟩, ⟨#[10, 10, 47, 42, 32, 101, 10, 102, 32, 42, 47, 10]⟩]
/-- The remainder of at least 0. -/
def md (g n : Int) : Int := g % n
theorem md_bd (g : Int) {n : Int} (h : 0 < n) : 0 ≤ md g n ∧ md g n < n := ⟨Int.emod_nonneg _ (by omega), Int.emod_lt_of_pos _ h⟩
theorem md_eq (g : Int) {n : Int} (h : 0 < n) : (g.tmod n + n) % n = md g n := by
  unfold md
  rw [Int.add_emod_right]
  rw [Int.tmod_def, Int.sub_emod, Int.mul_emod_right, Int.sub_zero, Int.emod_emod]

def gapAt (g : Int) : ByteArray := gapsL.getD (md g 7).toNat ByteArray.empty
def semi : ByteArray := ⟨#[59, 32]⟩
/-- What one number adds. -/
def gapT (g : Int) : List UInt8 := if gapAt g = semi then [] else (gapAt g).data.toList
def gtx (zs : List Int) : List UInt8 := zs.flatMap gapT

theorem gapT_len (g : Int) : (gapT g).length ≤ 14 := by
  have hb := md_bd g (n := 7) (by omega)
  unfold gapT gapAt
  generalize md g 7 = m at *
  have hm : m = 0 ∨ m = 1 ∨ m = 2 ∨ m = 3 ∨ m = 4 ∨ m = 5 ∨ m = 6 := by omega
  rcases hm with rfl | rfl | rfl | rfl | rfl | rfl | rfl <;> decide
theorem gtx_len (zs : List Int) : (gtx zs).length ≤ zs.length * 14 := by
  induction zs with
  | nil => simp [gtx]
  | cons g zs ih =>
    have := gapT_len g
    unfold gtx at ih ⊢
    rw [List.flatMap_cons, List.length_append, List.length_cons]
    omega
theorem gtx_snoc (zs : List Int) (k : Nat) (h : k < zs.length) : gtx (zs.take (k + 1)) = gtx (zs.take k) ++ gapT zs[k] := by
  unfold gtx
  rw [List.take_succ_eq_append_getElem h, List.flatMap_append]
  simp

theorem mod_any (g n : Int) (h1 : -9223372036854775808 ≤ g) (h2 : g ≤ 9223372036854775807) (hn : 0 < n) (hn2 : n ≤ 1000000) (w : World) :
    Calls Tryd.prog 25 #[.int .i64 g, .int .i64 n] w fun e w' => e = .returned (.int .i64 (md g n)) ∧ w = w' := by
  have hb1 : -n < g.tmod n := Int.lt_tmod_of_pos _ hn
  have hb2 : g.tmod n < n := Int.tmod_lt_of_pos _ hn
  have HE := Lib.hid (md_eq g hn)
  go_enter Tryd.func25, Tryd.ntmps25
  go_wp2
  go_ret
  exact ⟨ret_int HE.out, rfl⟩

def GapsPost (w : World) (e : Ending) (w' : World) : Prop := ∃ A, e = .returned (.slice A 7 7) ∧ Strs w' A gapsL ∧ Below w.heap.size w w'
theorem gaps_any (w : World) :
    Calls Tryd.prog 24 #[] w (GapsPost w) := by
  go_enter Tryd.func24, Tryd.ntmps24
  go_wp2
  exact bodyPost_ret (v := .slice (some ⟨w.heap.size, 0, none⟩) 7 7) (by simp [results, Tryd.results24, go_sem]) rfl ⟨_, rfl, Strs.newRow _ _ gapsL _ _ rfl (by decide), below_new _ _⟩

theorem gapsL_at (g : Int) : ∃ (i : Nat) (h : i < gapsL.length), md g 7 = (i : Int) ∧ gapsL[i] = gapAt g := by
  have hb := md_bd g (n := 7) (by omega)
  obtain ⟨i, hi⟩ := Int.eq_ofNat_of_zero_le hb.1
  have hl : i < gapsL.length := by show i < 7; omega
  refine ⟨i, hl, hi, ?_⟩
  unfold gapAt
  rw [hi]
  simp [List.getD_eq_getElem?_getD, hl]
theorem gapAt_len (g : Int) : (gapAt g).size ≤ 14 := by
  obtain ⟨i, h, _, e⟩ := gapsL_at g
  rw [← e]
  have hm : ∀ s ∈ gapsL, s.size ≤ 14 := by decide
  exact hm _ (List.getElem_mem h)

theorem semi_list : semi.toList = [59, 32] := by rw [Lib.toList_data]; rfl
def BT (zs : List Int) : ByteArray := BA (gtx zs)
theorem BT_nil : BT [] = ⟨#[]⟩ := rfl
theorem BT_skip {zs : List Int} {k : Nat} (h : k < zs.length) (e : gapAt zs[k] = semi) : BT (zs.take (k + 1)) = BT (zs.take k) := by
  unfold BT
  rw [gtx_snoc zs k h]
  unfold gapT
  rw [if_pos e, List.append_nil]
theorem BT_add {zs : List Int} {k : Nat} (h : k < zs.length) (e : gapAt zs[k] ≠ semi) : BT (zs.take (k + 1)) = BT (zs.take k) ++ gapAt zs[k] := by
  unfold BT
  apply WideShapes.bytes_inj
  rw [gtx_snoc zs k h, ByteArray.data_append, Array.toList_append, BA_data, BA_data]
  unfold gapT
  rw [if_neg e]
theorem BT_size (zs : List Int) : (BT zs).size ≤ zs.length * 14 := by
  unfold BT; rw [BA_size]; exact gtx_len zs

/-! ### AreLines, Comments -/
def lnB (s : ByteArray) : Bool := asc s && (!hasB s 10 && !hasB s 13)
theorem lnB_ok {s : ByteArray} (h : lnB s = true) : lineOk s.data.toList = true := by
  unfold lnB at h
  simp only [Bool.and_eq_true, Bool.not_eq_true'] at h
  obtain ⟨h1, h2, h3⟩ := h
  unfold lineOk
  rw [List.all_eq_true]
  intro b hb
  have ha := List.all_eq_true.1 h1 b hb
  have hd := ascB_bd ha
  have n10 : b ≠ 10 := by rintro rfl; unfold hasB at h2; rw [List.any_eq_false] at h2; exact h2 _ hb (by simp)
  have n13 : b ≠ 13 := by rintro rfl; unfold hasB at h3; rw [List.any_eq_false] at h3; exact h3 _ hb (by simp)
  have n0 : b ≠ 0 := by rintro rfl; exact absurd hd.1 (by decide)
  simp [n0, n10, n13, hd.2]
theorem areLines_any (A : Option Addr) (ss : List ByteArray) (cap : Nat) (w : World) (hs : Strs w A ss) (hl : ss.length ≤ maxLen) :
    Calls Tryd.prog 16 #[.slice A ss.length cap] w fun e w' => e = .returned (.bool (ss.all lnB)) ∧ w = w' := by
  unfold maxLen at hl
  go_enter Tryd.func16, Tryd.ntmps16
  go_wp2
  go_loop [7] (fun i => ∃ k : Nat, k ≤ ss.length ∧ i = .int .i64 k ∧ ((ss.take k).all lnB) = true) (fun i => ss.length - (intOf i).toNat)
  case atStart => exact ⟨0, Nat.zero_le _, rfl, by simp⟩
  case round =>
    obtain ⟨k, hk, rfl, hall⟩ := hrel
    have HA := Lib.hid hall; clear hall
    by_cases hlt : k < ss.length
    · obtain ⟨b, off, rfl, hb, hc⟩ := hs.2 (by omega)
      have hck := hc k hlt
      have hsz := hs.1 ss[k] (List.getElem_mem hlt)
      clear hc hs
      generalize hx : ss[k] = x at *
      have HX := Lib.hid hx; clear hx
      cases h1 : asc x
      · have H1 := Lib.hid h1
        have HF : Hid (lnB x = false) := Lib.hid (by unfold lnB; rw [h1]; rfl)
        clear h1
        go_wp2_with (go_at_call 13; refine (isASCII_any x hsz _).mono ?_; rintro e w' ⟨rfl, rfl⟩; rw [H1.out])
        go_ret
        exact ⟨ret_bool (lall_not hlt (by rw [HX.out]; exact HF.out)).symm, rfl⟩
      · have H1 := Lib.hid h1
        cases h2 : hasB x 10
        · have H2 := Lib.hid h2
          cases h3 : hasB x 13
          · have H3 := Lib.hid h3
            have HF : Hid (lnB x = true) := Lib.hid (by unfold lnB; rw [h1, h2, h3]; rfl)
            clear h1 h2 h3
            go_wp2_with fail
            refine (isASCII_any x hsz _).mono ?_; rintro e w' ⟨rfl, rfl⟩; rw [H1.out]
            go_wp2_with fail
            refine (hasByte_any x 10 10 rfl hsz _).mono ?_; rintro e w' ⟨rfl, rfl⟩; rw [H2.out]
            go_wp2_with fail
            refine (hasByte_any x 13 13 rfl hsz _).mono ?_; rintro e w' ⟨rfl, rfl⟩; rw [H3.out]
            go_wp2_with fail
            go_round
            case rel => exact ⟨k + 1, by omega, by go_num, lall_snoc hlt HA.out (by rw [HX.out]; exact HF.out)⟩
            case measure => simp [intOf]; omega
          · have H3 := Lib.hid h3
            have HF : Hid (lnB x = false) := Lib.hid (by unfold lnB; rw [h1, h2, h3]; rfl)
            clear h1 h2 h3
            go_wp2_with fail
            refine (isASCII_any x hsz _).mono ?_; rintro e w' ⟨rfl, rfl⟩; rw [H1.out]
            go_wp2_with fail
            refine (hasByte_any x 10 10 rfl hsz _).mono ?_; rintro e w' ⟨rfl, rfl⟩; rw [H2.out]
            go_wp2_with fail
            refine (hasByte_any x 13 13 rfl hsz _).mono ?_; rintro e w' ⟨rfl, rfl⟩; rw [H3.out]
            go_wp2_with fail
            go_ret
            exact ⟨ret_bool (lall_not hlt (by rw [HX.out]; exact HF.out)).symm, rfl⟩
        · have H2 := Lib.hid h2
          have HF : Hid (lnB x = false) := Lib.hid (by unfold lnB; rw [h1, h2]; rfl)
          clear h1 h2
          go_wp2_with fail
          refine (isASCII_any x hsz _).mono ?_; rintro e w' ⟨rfl, rfl⟩; rw [H1.out]
          go_wp2_with fail
          refine (hasByte_any x 10 10 rfl hsz _).mono ?_; rintro e w' ⟨rfl, rfl⟩; rw [H2.out]
          go_wp2_with fail
          go_ret
          exact ⟨ret_bool (lall_not hlt (by rw [HX.out]; exact HF.out)).symm, rfl⟩
    · go_wp2
      go_ret
      exact ⟨ret_bool (lall_whole (by omega) HA.out).symm, rfl⟩
def dl (ss : List ByteArray) : List (List UInt8) := ss.map fun s => s.data.toList
theorem lines_ok {ss : List ByteArray} (h : ss.all lnB = true) : (dl ss).all lineOk = true := by
  rw [List.all_eq_true] at h ⊢
  intro l hl
  obtain ⟨s, hs, rfl⟩ := List.mem_map.1 hl
  exact lnB_ok (h s hs)
theorem com_snoc (L : List (List UInt8)) (x : List UInt8) : comL (L ++ [x]) = comL L ++ (if x = [] then [10] else [47, 47, 32, 45, 32] ++ x ++ [10]) := by
  induction L with
  | nil => simp [comL]
  | cons s t ih => rw [List.cons_append, comL, ih, comL]; exact (List.append_assoc _ _ _).symm
def comB (ss : List ByteArray) : ByteArray := BA (comL (dl ss))
theorem comB_step {ss : List ByteArray} {k : Nat} (h : k < ss.length) : comB (ss.take (k + 1)) = if ss[k].data.toList = [] then comB (ss.take k) ++ BA [10] else comB (ss.take k) ++ (BA [47, 47, 32, 45, 32] ++ ss[k]) ++ BA [10] := by
  apply WideShapes.bytes_inj
  unfold comB dl
  rw [BA_data, take_snoc_l ss k h, List.map_append, List.map_singleton, com_snoc]
  split
  · simp [ByteArray.data_append, BA]
  · simp [ByteArray.data_append, BA]
theorem com_len (L : List (List UInt8)) : (comL L).length ≤ (L.map fun s => s.length + 6).sum := by
  induction L with
  | nil => simp [comL]
  | cons s t ih =>
    rw [comL, List.length_append, List.map_cons, List.sum_cons]
    split
    · simp; omega
    · simp; omega
theorem com_pre (L : List (List UInt8)) (k : Nat) : (comL (L.take k)).length ≤ (comL L).length := by
  have e : comL L = comL (L.take k) ++ comL (L.drop k) := by
    conv => lhs; rw [← List.take_append_drop k L]
    generalize L.take k = a
    generalize L.drop k = b
    induction a with
    | nil => simp [comL]
    | cons s t ih => rw [List.cons_append, comL, ih, comL]; exact (List.append_assoc _ _ _).symm
  rw [e, List.length_append]; omega
theorem comments_any (A : Option Addr) (ss : List ByteArray) (cap : Nat) (w : World) (hs : Strs w A ss) (hl : ss.length ≤ maxLen) (hc : (comB ss).size ≤ 1099511627776) :
    Calls Tryd.prog 20 #[.slice A ss.length cap] w fun e w' => e = .returned (.string (comB ss)) ∧ w = w' := by
  unfold maxLen at hl
  have HC : Hid (∀ k, (comB (ss.take k)).size ≤ 1099511627776) := Lib.hid (fun k => by
    have := com_pre (dl ss) k
    unfold comB at hc ⊢
    rw [BA_size] at hc ⊢
    unfold dl at *
    rw [← List.map_take] at this
    omega)
  clear hc
  go_enter Tryd.func20, Tryd.ntmps20
  go_wp2
  go_loop [3, 8] (fun o i => ∃ k : Nat, k ≤ ss.length ∧ i = .int .i64 k ∧ o = .string (comB (ss.take k))) (fun _ i => ss.length - (intOf i).toNat)
  case atStart => exact ⟨0, Nat.zero_le _, rfl, rfl⟩
  case round =>
    obtain ⟨k, hk, rfl, rfl⟩ := hrel
    by_cases hlt : k < ss.length
    · obtain ⟨b, off, rfl, hb, hc⟩ := hs.2 (by omega)
      have hck := hc k hlt
      have h1 := HC.out k
      have h2 := HC.out (k + 1)
      have HS := comB_step hlt
      clear hc hs
      generalize hx : ss[k] = x at *
      clear hx
      generalize comB (ss.take k) = y at *
      cases he : x.toList == []
      · have hne : x.data.toList ≠ [] := by rw [Lib.toList_data] at he; simpa using he
        rw [if_neg hne] at HS
        have hz : y.size + (5 + x.size) + 1 ≤ 1099511627776 := by rw [HS] at h2; simp only [ByteArray.size_append, BA_size] at h2; simpa using h2
        have HS2 := Lib.hid HS
        clear HS h2 hne
        go_wp2
        go_round
        case rel => exact ⟨k + 1, by omega, by go_num, by rw [HS2.out]; rfl⟩
        case measure => simp [intOf]; omega
      · have hne : x.data.toList = [] := by rw [Lib.toList_data] at he; simpa using he
        rw [if_pos hne] at HS
        have hz : y.size + 1 ≤ 1099511627776 := by rw [HS] at h2; simp only [ByteArray.size_append, BA_size] at h2; simpa using h2
        have HS2 := Lib.hid HS
        clear HS h2 hne
        go_wp2
        go_round
        case rel => exact ⟨k + 1, by omega, by go_num, by rw [HS2.out]; rfl⟩
        case measure => simp [intOf]; omega
    · obtain rfl : k = ss.length := by omega
      rw [List.take_length]
      go_wp2
      go_ret
      exact ⟨rfl, rfl⟩
theorem gapT_gap (g : Int) : gapB .sp (gapT g) = true := by
  have hb := md_bd g (n := 7) (by omega)
  unfold gapT gapAt
  generalize md g 7 = m at *
  have hm : m = 0 ∨ m = 1 ∨ m = 2 ∨ m = 3 ∨ m = 4 ∨ m = 5 ∨ m = 6 := by omega
  rcases hm with rfl | rfl | rfl | rfl | rfl | rfl | rfl <;> decide
theorem gapT_ascii (g : Int) : ∀ b ∈ gapT g, b.toNat ≤ 127 := by
  have hb := md_bd g (n := 7) (by omega)
  unfold gapT gapAt
  generalize md g 7 = m at *
  have hm : m = 0 ∨ m = 1 ∨ m = 2 ∨ m = 3 ∨ m = 4 ∨ m = 5 ∨ m = 6 := by omega
  rcases hm with rfl | rfl | rfl | rfl | rfl | rfl | rfl <;> decide
theorem gtx_gap (zs : List Int) : gapB .sp (gtx zs) = true := by
  induction zs with
  | nil => rfl
  | cons g zs ih =>
    unfold gtx at ih ⊢
    rw [List.flatMap_cons]
    exact gap_app ih .sp (gapT_gap g)
theorem gtx_ascii (zs : List Int) : ∀ b ∈ gtx zs, b.toNat ≤ 127 := by
  intro b hb
  unfold gtx at hb
  obtain ⟨g, _, h⟩ := List.mem_flatMap.1 hb
  exact gapT_ascii g b h
end Go.Proofs.YtgplcbobomainaaDoor
