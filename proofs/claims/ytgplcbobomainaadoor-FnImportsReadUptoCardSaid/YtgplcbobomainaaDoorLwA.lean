/-
  Helpers of the laws: IsASCII, Begins, Same; bytes of a text; whether the reader works.
-/
import Derived.Test.YtgplcbobomainaaDoorReG
import Derived.Test.YtgplcbobomainaaDoorLaE
import Derived.Test.YtgplcbobomainaaDoorPlain
import Derived.Lib.ConvBytes
import Derived.LoopTactic
import Derived.Deep.Draws
import Derived.WalkSpells
import Derived.WalkLawsBesides
namespace Go.Proofs.YtgplcbobomainaaDoor
open Go.RowKit
set_option linter.unusedVariables false
set_option linter.unusedSimpArgs false

/-- A byte of ASCII other than 0. -/
def ascB (b : UInt8) : Bool := b != 0 && b ≤ 127
theorem ascB_bd {b : UInt8} (h : ascB b = true) : 1 ≤ b.toNat ∧ b.toNat ≤ 127 := by
  unfold ascB at h
  simp [UInt8.le_iff_toNat_le] at h
  refine ⟨?_, h.2⟩
  rcases Nat.eq_zero_or_pos b.toNat with h0 | h0
  · exact absurd (UInt8.toNat_inj.1 (by simpa using h0)) h.1
  · omega
theorem ascB_not {b : UInt8} (h : ascB b = false) : b.toNat = 0 ∨ 127 < b.toNat := by
  unfold ascB at h
  simp [UInt8.le_iff_toNat_le] at h
  by_cases h0 : b = 0
  · left; rw [h0]; rfl
  · right; have := h h0; simpa [UInt8.lt_iff_toNat_lt] using this
def asc (s : ByteArray) : Bool := s.data.toList.all ascB

theorem take_snoc (s : ByteArray) (k : Nat) (h : k < s.size) : s.data.toList.take (k + 1) = s.data.toList.take k ++ [s[k]] := by
  rw [List.take_succ_eq_append_getElem (by simpa using h)]; rfl
theorem mem_at (s : ByteArray) (k : Nat) (h : k < s.size) : s[k] ∈ s.data.toList := by
  have e : s[k] = s.data.toList[k]'(by simpa using h) := rfl
  rw [e]; exact List.getElem_mem _
theorem all_snoc {p : UInt8 → Bool} {s : ByteArray} {k : Nat} (h : k < s.size) (h1 : (s.data.toList.take k).all p = true) (h2 : p s[k] = true) : (s.data.toList.take (k + 1)).all p = true := by
  rw [take_snoc s k h, List.all_append, h1]; simp [h2]
theorem all_not {p : UInt8 → Bool} {s : ByteArray} {k : Nat} (h : k < s.size) (h2 : p s[k] = false) : s.data.toList.all p = false := by
  rw [List.all_eq_false]
  exact ⟨_, mem_at s k h, by simp [h2]⟩
theorem all_whole {p : UInt8 → Bool} {s : ByteArray} {k : Nat} (h : s.size ≤ k) (h1 : (s.data.toList.take k).all p = true) : s.data.toList.all p = true := by
  rwa [List.take_of_length_le (by simpa using h)] at h1

theorem isASCII_any (s : ByteArray) (ws : s.size ≤ maxLen) (w : World) :
    Calls Tryd.prog 13 #[.string s] w fun e w' => e = .returned (.bool (asc s)) ∧ w = w' := by
  unfold maxLen at ws
  go_enter Tryd.func13, Tryd.ntmps13
  go_wp2
  go_loop [6] (fun i => ∃ k : Nat, k ≤ s.size ∧ i = .int .i64 k ∧ (s.data.toList.take k).all ascB = true) (fun i => s.size - (intOf i).toNat)
  case atStart => exact ⟨0, Nat.zero_le _, rfl, by simp⟩
  case round =>
    obtain ⟨k, hk, rfl, hall⟩ := hrel
    have HA := Lib.hid hall; clear hall
    by_cases hlt : k < s.size
    · cases hb : ascB s[k]
      · have HB := Lib.hid hb; clear hb
        rcases ascB_not HB.out with h0 | h0
        all_goals
          go_wp2
          go_ret
          exact ⟨ret_bool (all_not hlt HB.out).symm, rfl⟩
      · obtain ⟨h0, h1⟩ := ascB_bd hb
        have HB := Lib.hid hb; clear hb
        have e0 : ((s[k].toNat : Int) == 0) = false := by simp; omega
        go_wp2
        go_round
        case rel => exact ⟨k + 1, by omega, by go_num, all_snoc hlt HA.out HB.out⟩
        case measure => simp [intOf]; omega
    · go_wp2
      go_ret
      exact ⟨ret_bool (all_whole (by omega) HA.out).symm, rfl⟩

theorem begins_any (s h : ByteArray) (ws : s.size ≤ maxLen) (wh : h.size ≤ maxLen) (w : World) :
    Calls Tryd.prog 12 #[.string s, .string h] w fun e w' => e = .returned (.bool (beg s h)) ∧ w = w' := by
  unfold maxLen at ws wh
  by_cases hl : s.size < h.size
  · go_enter Tryd.func12, Tryd.ntmps12
    go_wp2
    go_ret
    exact ⟨ret_bool (beg_of_lt hl).symm, rfl⟩
  · go_enter Tryd.func12, Tryd.ntmps12
    go_wp2
    go_ret
    exact ⟨ret_bool (beg_ext s h), rfl⟩

theorem take_snoc_l {α : Type} (ss : List α) (k : Nat) (h : k < ss.length) : ss.take (k + 1) = ss.take k ++ [ss[k]] := by
  rw [List.take_succ_eq_append_getElem h]
theorem Drawn.strs {w w' : World} {A : Option Addr} {ss : List ByteArray} (h : Drawn w w') (hs : Strs w A ss) : Strs w' A ss := by
  obtain ⟨n, rfl⟩ := h; exact hs
def same (xs ys : List ByteArray) : Bool := decide (xs = ys)
theorem same_len {xs ys : List ByteArray} (h : xs.length ≠ ys.length) : same xs ys = false := by
  unfold same; rw [decide_eq_false_iff_not]; intro e; exact h (by rw [e])
theorem same_not {xs ys : List ByteArray} {k : Nat} (h1 : k < xs.length) (h2 : k < ys.length) (h : xs[k] ≠ ys[k]) : same xs ys = false := by
  unfold same; rw [decide_eq_false_iff_not]; intro e; subst e; exact h rfl
theorem same_yes {xs ys : List ByteArray} {k : Nat} (h1 : xs.length ≤ k) (h2 : ys.length ≤ k) (h : xs.take k = ys.take k) : same xs ys = true := by
  unfold same; rw [decide_eq_true_eq]; rwa [List.take_of_length_le h1, List.take_of_length_le h2] at h
theorem same_step {xs ys : List ByteArray} {k : Nat} (h1 : k < xs.length) (h2 : k < ys.length) (h : xs.take k = ys.take k) (e : xs[k] = ys[k]) : xs.take (k + 1) = ys.take (k + 1) := by
  rw [take_snoc_l xs k h1, take_snoc_l ys k h2, h, e]

theorem same_any (A B : Option Addr) (xs ys : List ByteArray) (cap cap' : Nat) (w : World) (hx : Strs w A xs) (hy : Strs w B ys) (lx : xs.length ≤ maxLen) (ly : ys.length ≤ maxLen) :
    Calls Tryd.prog 14 #[.slice A xs.length cap, .slice B ys.length cap'] w fun e w' => e = .returned (.bool (same xs ys)) ∧ Drawn w w' := by
  unfold maxLen at lx ly
  by_cases hl : xs.length = ys.length
  · have HL := Lib.hid hl
    have e0 : (((xs.length : Nat) : Int) != ((ys.length : Nat) : Int)) = false := by simp [hl]
    have hle : xs.length ≤ ys.length := by omega
    have hge : ys.length ≤ xs.length := by omega
    clear hl
    go_enter Tryd.func14, Tryd.ntmps14
    go_wp2
    go_loopw [13] (fun i wr => ∃ k : Nat, k ≤ xs.length ∧ i = .int .i64 k ∧ Drawn w wr ∧ xs.take k = ys.take k) (fun i _ => xs.length - (intOf i).toNat)
    case atStart => exact ⟨0, Nat.zero_le _, rfl, Drawn.refl _, by simp⟩
    case round =>
      obtain ⟨k, hk, rfl, hdr, hpre⟩ := hrel
      have HP := Lib.hid hpre; clear hpre
      obtain ⟨nd, rfl⟩ := hdr
      by_cases hlt : k < xs.length
      · obtain ⟨b, off, rfl, hb, hc⟩ := hx.2 (by omega)
        obtain ⟨b', off', rfl, hb', hc'⟩ := hy.2 (by omega)
        have hck := hc k hlt
        have hck' := hc' k (by omega)
        clear hc hc' hx hy
        have hk0 : (0 : Int) ≤ (k : Int) := by omega
        have hk1 : (k : Int) < (xs.length : Int) := by omega
        have hk2 : (k : Int) < (ys.length : Int) := by omega
        generalize hxx : xs[k] = x at *
        generalize hyy : ys[k]'(by omega) = y at *
        have HX := Lib.hid hxx; clear hxx
        have HY := Lib.hid hyy; clear hyy
        cases hxy : x.toList == y.toList
        · have hne : Hid (x ≠ y) := Lib.hid <| by intro e; subst e; simp at hxy
          go_wp2
          go_quiet (fail)
          go_wp2
          go_ret
          exact ⟨ret_bool (same_not hlt (by omega) (by rw [HX.out, HY.out]; exact hne.out)).symm, Drawn.more ⟨_, rfl⟩ _⟩
        · have heq : Hid (x = y) := Lib.hid <| bytes_eq (by simpa using hxy)
          go_wp2
          go_quiet (fail)
          go_wp2
          go_roundw
          case rel => exact ⟨k + 1, by omega, by go_num, ⟨_, rfl⟩, same_step hlt (by omega) HP.out (by rw [HX.out, HY.out]; exact heq.out)⟩
          case measure => simp [intOf]; omega
      · go_wp2
        go_ret
        exact ⟨ret_bool (same_yes (by omega) (by omega) HP.out).symm, ⟨_, rfl⟩⟩
  · have e0 : (((xs.length : Nat) : Int) != ((ys.length : Nat) : Int)) = true := by simp; omega
    have HE := Lib.hid (same_len hl)
    clear hl
    go_enter Tryd.func14, Tryd.ntmps14
    go_wp2
    go_ret
    exact ⟨ret_bool HE.out.symm, Drawn.refl _⟩

theorem same_anyN (A B : Option Addr) (n m : Nat) (xs ys : List ByteArray) (hn : xs.length = n) (hm : ys.length = m) (cap cap' : Nat) (w : World) (hx : Strs w A xs) (hy : Strs w B ys) (lx : xs.length ≤ maxLen) (ly : ys.length ≤ maxLen) :
    Calls Tryd.prog 14 #[.slice A n cap, .slice B m cap'] w fun e w' => e = .returned (.bool (same xs ys)) ∧ Drawn w w' := by
  subst hn hm
  exact same_any A B xs ys cap cap' w hx hy lx ly

theorem bytesWorld_below (w : World) (e : TypeId) (s : ByteArray) : Below w.heap.size w (Lib.bytesWorld w e s) :=
  ⟨rfl, rfl, rfl, by rw [Lib.bytesWorld_size]; omega, fun k hk => Lib.bytesWorld_at_old w e s k hk⟩
theorem bytesWorld_bts (w : World) (e : TypeId) (s : ByteArray) : Bts (Lib.bytesWorld w e s) (some ⟨w.heap.size, 0, none⟩) s.data.toList := by
  refine Bts.mk_ (by rw [Lib.bytesWorld_size]; omega) fun i hi => ?_
  rw [Nat.zero_add, Lib.bytesWorld_cell w e s i (by simpa using hi)]
  rw [List.getD_eq_getElem?_getD, List.getElem?_eq_getElem hi]
  rfl


/-- The file that readWorks reads. -/
def worksL : List UInt8 := [112, 97, 99, 107, 97, 103, 101, 32, 112, 10, 105, 109, 112, 111, 114, 116, 32, 34, 97, 34, 10, 118, 97, 114, 32, 120, 32, 105, 110, 116, 10]
def worksO : List UInt8 := [112, 97, 99, 107, 97, 103, 101, 32, 112, 10, 105, 109, 112, 111, 114, 116, 32, 34, 97, 34, 10]
theorem works_call {E : EB} {w : World} {cs : Array Value} (p : Nat × Nat) (hcs : cs = (bv worksL).toArray) (he : E.Ok 1 0 w) :
    Calls Tryd.prog 10 #[.slice (some ⟨w.heap.size, 0, none⟩) 31 31, .int .i64 64, .bool true] (w.alloc (.cells cs 5 p)) fun e w' =>
      ∃ A cap g cap2, e = .returned (.tuple #[.slice A 21 cap, .slice (some ⟨g, 0, none⟩) 1 cap2, .bool true]) ∧ Below w.heap.size w w' ∧ Strs w' (some ⟨g, 0, none⟩) [⟨#[34, 97, 34]⟩] := by
  have hb : Below w.heap.size w (w.alloc (.cells cs 5 p)) := (Below.refl _ _).alloc (Nat.le_refl _) _
  refine (implReadImports_any (E := E) (A := some ⟨w.heap.size, 0, none⟩) (c := 31) (data := worksL) 64 true rfl (Bts.newRow w _ _ p cs hcs) (by decide) (he.below hb)).mono ?_
  rintro e w' ⟨hb2, ⟨b, L, A2, cap, LV, hR, rfl, hbt, hown⟩ | ⟨hR, rfl⟩⟩
  · have hw : readIm true worksL = some (worksO, [[34, 97, 34]]) := works_im
    rw [hw] at hR
    injection hR with hR
    injection hR with h1 h2
    subst h1; subst h2
    obtain ⟨g, cap2, rfl, h3, h4, h5, h6⟩ := own_form hown (by decide)
    exact ⟨A2, cap, g, cap2, rfl, hb.trans (hb2.mono (by simp)), own_strs hown (fun s hs => by
      simp [GI.bz] at hs
      subst hs
      decide)⟩
  · have hw : readIm true worksL = some (worksO, [[34, 97, 34]]) := works_im
    rw [hw] at hR
    cases hR
set_option maxRecDepth 100000 in
set_option maxHeartbeats 1000000 in
theorem readWorks_any {E : EB} {w : World} (he : E.Ok 1 0 w) :
    Calls Tryd.prog 11 #[] w fun e w' => e = .returned (.bool true) ∧ Below w.heap.size w w' := by
  have kc := fun (w : World) (C : Array Value) (n c : Nat) => Lib.run_convert_bytes_const (P := Tryd.prog) w 22 5 C n c Tryd.underlying22 Tryd.underlying5
  go_enter Tryd.func11, Tryd.ntmps11
  go_wp2_with fail
  refine (works_call _ rfl he).mono ?_; rintro e w1 ⟨A, cap, g, cap2, rfl, hb, hs⟩
  have hs1 := fun (o : Obj) => hs.below ((Below.refl w1.heap.size w1).alloc (Nat.le_refl _) o)
  clear hs
  go_wp2_with fail
  refine (same_anyN _ _ 1 1 [⟨#[34, 97, 34]⟩] [⟨#[34, 97, 34]⟩] rfl rfl _ _ _ (hs1 _) (Strs.newRow _ _ _ _ _ rfl (by decide)) (by decide) (by decide)).mono ?_; rintro e w2 ⟨rfl, hd⟩
  have hb2 : Below w.heap.size w w2 := hb.trans ((((Below.refl _ _).alloc (Nat.le_refl _) _).trans (hd.below.mono (by simp))).mono hb.size)
  clear hb hd hs1
  go_wp2_with fail
  go_ret
  exact ⟨ret_bool (by decide), hb2⟩
end Go.Proofs.YtgplcbobomainaaDoor
