/-
  The walks of the laws FnImportsBegin, FnCommentsImports, FnCommentsRoads.
-/
import Derived.Test.YtgplcbobomainaaDoorLwB
namespace Go.Proofs.YtgplcbobomainaaDoor
open Go.RowKit
set_option linter.unusedVariables false
set_option linter.unusedSimpArgs false

theorem asc_list {s : ByteArray} (h : asc s = true) : ∀ b ∈ s.data.toList, b.toNat ≤ 127 := fun b hb => (ascB_bd (List.all_eq_true.1 h b hb)).2
set_option maxRecDepth 100000 in
set_option maxHeartbeats 1000000 in
theorem beginArgs {E : EB} (s : ByteArray) (most : Int) (rep : Bool) (w : World) (ws : s.size ≤ maxLen) (h1 : IntKind.i64.wrap most = most) (he : OkI E w) :
    Calls Tryd.prog 3 #[.string s, .int .i64 most, .bool rep] w fun e w' => e = .returned (.bool true) ∧ Below w.heap.size w w' := by
  have ms := ws
  unfold maxLen at ws
  by_cases hbig : 2147483647 < s.size
  · go_enter Tryd.func3, Tryd.ntmps3
    go_wp2_with fail
    go_ret
    exact ⟨rfl, Below.refl _ _⟩
  have hs : s.size ≤ 2147483647 := by omega
  clear hbig
  have kb := fun (w : World) => Lib.run_convert_string_bytes (P := Tryd.prog) w 9 22 5 s Tryd.underlying9 Tryd.underlying22 Tryd.underlying5
  go_enter Tryd.func3, Tryd.ntmps3
  go_wp2_with fail
  refine (imp_call most rep h1 (by simp) (by omega) he).mono ?_; rintro e w1 ⟨A, cap, B, cap2, b, L, ok, rfl, r1⟩
  have he1 := he.below r1.below
  have hB := r1.below
  have t1 := r1.bts
  have hlb := r1.lb
  rcases r1.res with ⟨rfl, hR⟩ | ⟨rfl, hR, _⟩
  · have HBEG : Hid (asc s = true → beg s ⟨b.toArray⟩ = true) := Lib.hid (fun ha => by
      unfold beg
      rw [decide_eq_true_eq]
      exact readIm_begins (asc_list ha) hR)
    clear r1 hR he
    go_wp2_with fail
    refine (readWorks_any he1).mono ?_; rintro e w3 ⟨rfl, b3⟩
    have k1 := (t1.below b3).conv (P := Tryd.prog) (dst := 9) Tryd.underlying22 Tryd.underlying5 Tryd.underlying9 cap
    have hB3 := hB.trans (b3.mono hB.size)
    have hsz : (⟨b.toArray⟩ : ByteArray).size ≤ maxLen := by show b.toArray.size ≤ _; simp; unfold maxLen; omega
    clear t1 b3 hB he1
    cases hb : beg s ⟨b.toArray⟩
    · have ha : asc s = false := by
        cases h : asc s with
        | false => rfl
        | true => rw [HBEG.out h] at hb; cases hb
      have HA := Lib.hid ha
      have HB := Lib.hid hb
      clear ha hb
      go_wp2_with fail
      refine (begins_any s ⟨b.toArray⟩ ms hsz _).mono ?_; rintro e w4 ⟨rfl, rfl⟩; rw [HB.out]
      go_wp2_with fail
      refine (isASCII_any s ms _).mono ?_; rintro e w5 ⟨rfl, rfl⟩; rw [HA.out]
      go_wp2_with fail
      go_ret
      exact ⟨rfl, hB3⟩
    · have HB := Lib.hid hb
      clear hb
      go_wp2_with fail
      refine (begins_any s ⟨b.toArray⟩ ms hsz _).mono ?_; rintro e w4 ⟨rfl, rfl⟩; rw [HB.out]
      go_wp2_with fail
      go_ret
      exact ⟨rfl, hB3⟩
  · clear r1 hR he t1
    go_wp2_with fail
    refine (readWorks_any he1).mono ?_; rintro e w3 ⟨rfl, b3⟩
    have hB3 := hB.trans (b3.mono hB.size)
    clear b3 hB he1
    go_wp2_with fail
    go_ret
    exact ⟨rfl, hB3⟩

/-- What a call of ReadComments or CommentsOf leaves, for the laws. -/
structure RC (w : World) (R : Option (List UInt8)) (A : Option Addr) (b : List UInt8) (ok : Bool) (w' : World) : Prop where
  below : Below w.heap.size w w'
  bts : Bts w' A b
  lb : b.length ≤ 4294967296
  res : (ok = true ∧ R = some b) ∨ (ok = false ∧ R = none ∧ b = [])
def RCPost (w : World) (R : Option (List UInt8)) (e : Ending) (w' : World) : Prop := ∃ A cap b ok, e = .returned (.tuple #[.slice A b.length cap, .bool ok]) ∧ RC w R A b ok w'
theorem rc_of {w : World} {data : List UInt8} {e : Ending} {w' : World} (hl : data.length ≤ 4294967296) (h : RCmPost w (readCm data) e w') : RCPost w (readCm data) e w' := by
  obtain ⟨hb, ⟨b, A, cap, hR, rfl, hbt⟩ | ⟨hR, rfl⟩⟩ := h
  · have := readCm_short hR
    exact ⟨A, cap, b, true, rfl, hb, hbt, by omega, .inl ⟨rfl, hR⟩⟩
  · exact ⟨none, 0, [], false, rfl, hb, Bts.nil_ _ _, by simp, .inr ⟨rfl, hR, rfl⟩⟩
theorem RC.same {w1 w2 w1' w2' : World} {R : Option (List UInt8)} {A A' : Option Addr} {b b' : List UInt8} {ok ok' : Bool} (h : RC w1 R A b ok w1') (k : RC w2 R A' b' ok' w2') : b = b' ∧ ok = ok' := by
  rcases h.res with ⟨h1, h2⟩ | ⟨h1, h2, h3⟩ <;> rcases k.res with ⟨k1, k2⟩ | ⟨k1, k2, k3⟩
  · rw [h2] at k2
    injection k2 with k2
    exact ⟨k2, by rw [h1, k1]⟩
  · rw [h2] at k2; cases k2
  · rw [h2] at k2; cases k2
  · rw [h3, k3, h1, k1]; exact ⟨rfl, rfl⟩
theorem cm_call {E : EB} {w : World} {s : ByteArray} {n c : Nat} (most : Int) (hm : IntKind.i64.wrap most = most) (hn : n = s.data.toList.length) (hs : n ≤ 4294967296) (he : OkI E w) :
    Calls Tryd.prog 22 #[.slice (some ⟨w.heap.size, 0, none⟩) n c, .int .i64 most] (Lib.bytesWorld w 5 s) (fun e w' => RCPost w (readCm s.data.toList) e w') := by
  subst hn
  have hb := bytesWorld_below w 5 s
  refine (implReadComments_any (E := E) most hm (bytesWorld_bts w 5 s) hs (he.below hb)).mono ?_
  intro e w' h
  obtain ⟨A, cap, b, ok, rfl, h2⟩ := rc_of hs h
  exact ⟨A, cap, b, ok, rfl, hb.trans (h2.below.mono hb.size), h2.bts, h2.lb, h2.res⟩
theorem co_call {E : EB} {w : World} {s : ByteArray} {n c : Nat} (hn : n = s.data.toList.length) (hs : n ≤ 4294967296) (he : OkB E w) :
    Calls Tryd.prog 26 #[.slice (some ⟨w.heap.size, 0, none⟩) n c] (Lib.bytesWorld w 5 s) (fun e w' => RCPost w (readCm s.data.toList) e w') := by
  subst hn
  have hb := bytesWorld_below w 5 s
  refine (implCommentsOf_any (E := E) (bytesWorld_bts w 5 s) hs (he.below hb)).mono ?_
  intro e w' h
  obtain ⟨A, cap, b, ok, rfl, h2⟩ := rc_of hs h
  exact ⟨A, cap, b, ok, rfl, hb.trans (h2.below.mono hb.size), h2.bts, h2.lb, h2.res⟩
def cmL : List UInt8 := [47, 47, 32, 97, 10, 112, 97, 99, 107, 97, 103, 101, 32, 112, 10]
theorem cm_works {E : EB} {w : World} {cs : Array Value} (p : Nat × Nat) (hcs : cs = (bv cmL).toArray) (he : OkI E w) :
    Calls Tryd.prog 22 #[.slice (some ⟨w.heap.size, 0, none⟩) 15 15, .int .i64 64] (w.alloc (.cells cs 5 p)) fun e w' =>
      ∃ A cap, e = .returned (.tuple #[.slice A 5 cap, .bool true]) ∧ Below w.heap.size w w' ∧ Bts w' A [47, 47, 32, 97, 10] := by
  have hb : Below w.heap.size w (w.alloc (.cells cs 5 p)) := (Below.refl _ _).alloc (Nat.le_refl _) _
  refine (implReadComments_any (E := E) (A := some ⟨w.heap.size, 0, none⟩) (c := 15) (data := cmL) 64 rfl (Bts.newRow w _ _ p cs hcs) (by decide) (he.below hb)).mono ?_
  have hw : readCm cmL = some [47, 47, 32, 97, 10] := works_cm
  rintro e w' ⟨hb2, ⟨b, A2, cap, hR, rfl, hbt⟩ | ⟨hR, rfl⟩⟩
  · rw [hw] at hR
    injection hR with hR
    subst hR
    exact ⟨A2, cap, rfl, hb.trans (hb2.mono (by simp)), hbt⟩
  · rw [hw] at hR
    cases hR

set_option maxRecDepth 100000 in
set_option maxHeartbeats 1000000 in
theorem commentsImportsArgs {E : EB} (s : ByteArray) (most : Int) (w : World) (ws : s.size ≤ maxLen) (h1 : IntKind.i64.wrap most = most) (he : OkI E w) :
    Calls Tryd.prog 9 #[.string s, .int .i64 most] w fun e w' => e = .returned (.bool true) ∧ Below w.heap.size w w' := by
  unfold maxLen at ws
  by_cases hbig : 2147483647 < s.size
  · go_enter Tryd.func9, Tryd.ntmps9
    go_wp2_with fail
    go_ret
    exact ⟨rfl, Below.refl _ _⟩
  have hs : s.size ≤ 2147483647 := by omega
  clear hbig
  have kb := fun (w : World) => Lib.run_convert_string_bytes (P := Tryd.prog) w 9 22 5 s Tryd.underlying9 Tryd.underlying22 Tryd.underlying5
  go_enter Tryd.func9, Tryd.ntmps9
  go_wp2_with fail
  refine (cm_call most h1 (by simp) (by omega) he).mono ?_; rintro e w1 ⟨A, cap, b, ok, rfl, r1⟩
  have he1 := he.below r1.below
  go_wp2_with fail
  refine (imp_call most true h1 (by simp) (by omega) he1).mono ?_; rintro e w2 ⟨A', cap', B', cap2', b', L', ok', rfl, r2⟩
  have he2 := he1.below r2.below
  have hB := r1.below.trans (r2.below.mono r1.below.size)
  have t1 := r1.bts.below r2.below
  have t2 := r2.bts
  have l1 := r1.lb
  have l2 := r2.lb
  have HR1 := Lib.hid r1.res
  have HR2 := Lib.hid r2.res
  clear r1 r2 he he1
  go_wp2_with fail
  refine (readWorks_any he2).mono ?_; rintro e w3 ⟨rfl, b3⟩
  have k1 := (t1.below b3).conv (P := Tryd.prog) (dst := 9) Tryd.underlying22 Tryd.underlying5 Tryd.underlying9 cap
  have k2 := (t2.below b3).conv (P := Tryd.prog) (dst := 9) Tryd.underlying22 Tryd.underlying5 Tryd.underlying9 cap'
  have hB3 := hB.trans (b3.mono hB.size)
  have z1 : (⟨b.toArray⟩ : ByteArray).size ≤ maxLen := by show b.toArray.size ≤ _; simp; unfold maxLen; omega
  have z2 : (⟨b'.toArray⟩ : ByteArray).size ≤ maxLen := by show b'.toArray.size ≤ _; simp; unfold maxLen; omega
  clear t1 t2 b3 hB he2
  rcases HR1.out with ⟨rfl, e1⟩ | ⟨rfl, e1, _⟩
  · rcases HR2.out with ⟨rfl, e2⟩ | ⟨rfl, e2, _⟩
    · have HB : Hid (beg ⟨b'.toArray⟩ ⟨b.toArray⟩ = true) := Lib.hid (by
        unfold beg
        rw [decide_eq_true_eq]
        exact readCm_im e1 e2)
      clear e1 e2 HR1 HR2
      go_wp2_with fail
      refine (begins_any ⟨b'.toArray⟩ ⟨b.toArray⟩ z2 z1 _).mono ?_; rintro e w4 ⟨rfl, rfl⟩; rw [HB.out]
      go_wp2_with fail
      go_ret
      exact ⟨rfl, hB3⟩
    · clear e1 e2 HR1 HR2
      go_wp2_with fail
      go_ret
      exact ⟨rfl, hB3⟩
  · clear e1 HR1 HR2
    go_wp2_with fail
    go_ret
    exact ⟨rfl, hB3⟩

set_option maxRecDepth 100000 in
set_option maxHeartbeats 1000000 in
theorem roadsArgs {E E2 : EB} (s : ByteArray) (most : Int) (w : World) (ws : s.size ≤ maxLen) (h1 : IntKind.i64.wrap most = most) (he : OkI E w) (hf : OkB E2 w) :
    Calls Tryd.prog 8 #[.string s, .int .i64 most] w fun e w' => e = .returned (.bool true) ∧ Below w.heap.size w w' := by
  have ms := ws
  unfold maxLen at ws
  by_cases hbig : 2147483647 < s.size
  · go_enter Tryd.func8, Tryd.ntmps8
    go_wp2_with fail
    go_ret
    exact ⟨rfl, Below.refl _ _⟩
  have hs : s.size ≤ 2147483647 := by omega
  clear hbig
  have kb := fun (w : World) => Lib.run_convert_string_bytes (P := Tryd.prog) w 9 22 5 s Tryd.underlying9 Tryd.underlying22 Tryd.underlying5
  have kc := fun (w : World) (C : Array Value) (n c : Nat) => Lib.run_convert_bytes_const (P := Tryd.prog) w 22 5 C n c Tryd.underlying22 Tryd.underlying5
  go_enter Tryd.func8, Tryd.ntmps8
  go_wp2_with fail
  refine (cm_works _ rfl he).mono ?_; rintro e w0 ⟨A0, cap0, rfl, b0, t0⟩
  have k0 := t0.conv (P := Tryd.prog) (dst := 9) Tryd.underlying22 Tryd.underlying5 Tryd.underlying9 cap0
  simp only [List.length_cons, List.length_nil] at k0
  have he0 := he.below b0
  have hf0 := hf.below b0
  clear t0 he hf
  cases ha : asc s
  · have HA := Lib.hid ha
    clear ha he0 hf0
    go_wp2_with fail
    refine (isASCII_any s ms _).mono ?_; rintro e w' ⟨rfl, rfl⟩; rw [HA.out]
    go_wp2_with fail
    go_ret
    exact ⟨rfl, b0⟩
  · have HA := Lib.hid ha
    clear ha
    go_wp2_with fail
    refine (isASCII_any s ms _).mono ?_; rintro e w' ⟨rfl, rfl⟩; rw [HA.out]
    clear k0
    go_wp2_with fail
    refine (cm_call most h1 (by simp) (by omega) he0).mono ?_; rintro e w1 ⟨A, cap, b, ok, rfl, r1⟩
    have hf1 := hf0.below r1.below
    clear he0 hf0
    go_wp2_with fail
    refine (co_call (by simp) (by omega) hf1).mono ?_; rintro e w2 ⟨A', cap', b', ok', rfl, r2⟩
    obtain ⟨rfl, rfl⟩ := r1.same r2
    have k1 := (r1.bts.below r2.below).conv (P := Tryd.prog) (dst := 9) Tryd.underlying22 Tryd.underlying5 Tryd.underlying9 cap
    have k2 := r2.bts.conv (P := Tryd.prog) (dst := 9) Tryd.underlying22 Tryd.underlying5 Tryd.underlying9 cap'
    have hB := (b0.trans (r1.below.mono b0.size)).trans (r2.below.mono (Nat.le_trans b0.size r1.below.size))
    clear r1 r2 b0 hf1
    go_wp2_with fail
    go_ret
    exact ⟨ret_bool (by simp), hB⟩
end Go.Proofs.YtgplcbobomainaaDoor
