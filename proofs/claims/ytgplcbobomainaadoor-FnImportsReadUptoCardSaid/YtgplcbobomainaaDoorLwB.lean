/-
  The walks of the laws FnImportsPieces, FnImportsBegin, FnCommentsRoads, FnCommentsImports.
-/
import Derived.Test.YtgplcbobomainaaDoorLwA
namespace Go.Proofs.YtgplcbobomainaaDoor
open Go.RowKit
set_option linter.unusedVariables false
set_option linter.unusedSimpArgs false

abbrev OkI (E : EB) (w : World) : Prop := E.Ok 1 0 w
abbrev OkB (E : EB) (w : World) : Prop := E.Ok 7 8 w
/-- What a call of ReadImports leaves, for the laws. -/
structure RI (w : World) (R : Option (List UInt8 × List (List UInt8))) (A B : Option Addr) (b : List UInt8) (L : List (List UInt8)) (ok : Bool) (w' : World) : Prop where
  below : Below w.heap.size w w'
  bts : Bts w' A b
  strs : Strs w' B (L.map GI.bz)
  lb : b.length ≤ 4294967296
  lL : L.length ≤ 4294967296
  res : (ok = true ∧ R = some (b, L)) ∨ (ok = false ∧ R = none ∧ b = [] ∧ L = [])
def RIPost (w : World) (R : Option (List UInt8 × List (List UInt8))) (e : Ending) (w' : World) : Prop :=
  ∃ A cap B cap2 b L ok, e = .returned (.tuple #[.slice A b.length cap, .slice B L.length cap2, .bool ok]) ∧ RI w R A B b L ok w'
theorem strs_nil (w : World) (A : Option Addr) : Strs w A [] := ⟨(fun s hs => by cases hs), (fun h => absurd h (by simp))⟩
theorem ri_of {w : World} {rep : Bool} {data : List UInt8} {e : Ending} {w' : World} (hl : data.length ≤ 4294967296) (h : RImPost w (readIm rep data) e w') : RIPost w (readIm rep data) e w' := by
  obtain ⟨hb, ⟨b, L, A, cap, LV, hR, rfl, hbt, hown⟩ | ⟨hR, rfl⟩⟩ := h
  · obtain ⟨s1, s2, s3⟩ := readIm_short hR
    have hm : ∀ s ∈ L.map GI.bz, s.size ≤ maxLen := fun s hs => by
      obtain ⟨x, hx, rfl⟩ := List.mem_map.1 hs
      have := s2 x hx
      show x.toArray.size ≤ _
      simp
      unfold maxLen
      omega
    rcases hown.2 with ⟨rfl, h0⟩ | ⟨g, cap2, cur, rfl, _⟩
    · have hL : L = [] := List.eq_nil_of_length_eq_zero h0
      subst hL
      exact ⟨A, cap, none, 0, b, [], true, rfl, hb, hbt, strs_nil _ _, by omega, by simp, .inl ⟨rfl, hR⟩⟩
    · refine ⟨A, cap, some ⟨g, 0, none⟩, cap2, b, L, true, rfl, hb, hbt, ?_, by omega, by omega, .inl ⟨rfl, hR⟩⟩
      have e : L.length = (L.map GI.bz).length := by simp
      rw [e] at hown
      exact own_strs hown hm
  · exact ⟨none, 0, none, 0, [], [], false, rfl, hb, Bts.nil_ _ _, strs_nil _ _, by simp, by simp, .inr ⟨rfl, hR, rfl, rfl⟩⟩
theorem RI.same {w1 w2 w1' w2' : World} {R : Option (List UInt8 × List (List UInt8))} {A B A' B' : Option Addr} {b b' : List UInt8} {L L' : List (List UInt8)} {ok ok' : Bool} (h : RI w1 R A B b L ok w1') (k : RI w2 R A' B' b' L' ok' w2') : b = b' ∧ L = L' ∧ ok = ok' := by
  rcases h.res with ⟨h1, h2⟩ | ⟨h1, h2, h3, h4⟩ <;> rcases k.res with ⟨k1, k2⟩ | ⟨k1, k2, k3, k4⟩
  · rw [h2] at k2
    injection k2 with k2
    injection k2 with k2 k3
    exact ⟨k2, k3, by rw [h1, k1]⟩
  · rw [h2] at k2; cases k2
  · rw [h2] at k2; cases k2
  · rw [h3, h4, k3, k4, h1, k1]; exact ⟨rfl, rfl, rfl⟩
theorem RI.later {w1 w2 w' : World} {R : Option (List UInt8 × List (List UInt8))} {A B : Option Addr} {b : List UInt8} {L : List (List UInt8)} {ok : Bool} (h : RI w1 R A B b L ok w2) (hb : Below w2.heap.size w2 w') : Bts w' A b ∧ Strs w' B (L.map GI.bz) := ⟨h.bts.below hb, h.strs.below hb⟩
/-- ReadImports of a text's bytes. -/
theorem imp_call {E : EB} {w : World} {s : ByteArray} {n c : Nat} (most : Int) (rep : Bool) (hm : IntKind.i64.wrap most = most) (hn : n = s.data.toList.length) (hs : n ≤ 4294967296) (he : OkI E w) :
    Calls Tryd.prog 10 #[.slice (some ⟨w.heap.size, 0, none⟩) n c, .int .i64 most, .bool rep] (Lib.bytesWorld w 5 s) (fun e w' => RIPost w (readIm rep s.data.toList) e w') := by
  subst hn
  have hb := bytesWorld_below w 5 s
  refine (implReadImports_any (E := E) most rep hm (bytesWorld_bts w 5 s) hs (he.below hb)).mono ?_
  intro e w' h
  obtain ⟨A, cap, B, cap2, b, L, ok, rfl, h2⟩ := ri_of hs h
  exact ⟨A, cap, B, cap2, b, L, ok, rfl, hb.trans (h2.below.mono hb.size), h2.bts, h2.strs, h2.lb, h2.lL, h2.res⟩

set_option maxRecDepth 100000 in
set_option maxHeartbeats 1000000 in
theorem piecesArgs {E : EB} (s : ByteArray) (one two : Int) (rep : Bool) (w : World) (ws : s.size ≤ maxLen) (h1 : IntKind.i64.wrap one = one) (h2 : IntKind.i64.wrap two = two) (he : OkI E w) :
    Calls Tryd.prog 4 #[.string s, .int .i64 one, .int .i64 two, .bool rep] w fun e w' => e = .returned (.bool true) ∧ Below w.heap.size w w' := by
  unfold maxLen at ws
  by_cases hbig : 2147483647 < s.size
  · go_enter Tryd.func4, Tryd.ntmps4
    go_wp2_with fail
    go_ret
    exact ⟨rfl, Below.refl _ _⟩
  have hs : s.size ≤ 2147483647 := by omega
  clear hbig
  have kb := fun (w : World) => Lib.run_convert_string_bytes (P := Tryd.prog) w 9 22 5 s Tryd.underlying9 Tryd.underlying22 Tryd.underlying5
  go_enter Tryd.func4, Tryd.ntmps4
  go_wp2_with fail
  refine (imp_call one rep h1 (by simp) (by omega) he).mono ?_; rintro e w1 ⟨A, cap, B, cap2, b, L, ok, rfl, r1⟩
  have he1 := he.below r1.below
  go_wp2_with fail
  refine (imp_call two rep h2 (by simp) (by omega) he1).mono ?_; rintro e w2 ⟨A', cap', B', cap2', b', L', ok', rfl, r2⟩
  obtain ⟨rfl, rfl, rfl⟩ := r1.same r2
  have he2 := he1.below r2.below
  have hB := r1.below.trans (r2.below.mono r1.below.size)
  obtain ⟨t1, q1⟩ := r1.later r2.below
  have t2 := r2.bts
  have q2 := r2.strs
  have hlb := r1.lb
  have hlL := r1.lL
  clear r1 r2 he he1
  go_wp2_with fail
  refine (readWorks_any he2).mono ?_; rintro e w3 ⟨rfl, b3⟩
  have k1 := (t1.below b3).conv (P := Tryd.prog) (dst := 9) Tryd.underlying22 Tryd.underlying5 Tryd.underlying9 cap
  have k2 := (t2.below b3).conv (P := Tryd.prog) (dst := 9) Tryd.underlying22 Tryd.underlying5 Tryd.underlying9 cap'
  have s1 := q1.below b3
  have s2 := q2.below b3
  have hB3 := hB.trans (b3.mono hB.size)
  clear t1 t2 q1 q2 b3 hB he2
  go_wp2_with fail
  refine (same_anyN _ _ _ _ (L.map GI.bz) (L.map GI.bz) (by simp) (by simp) _ _ _ s1 s2 (by rw [List.length_map]; unfold maxLen; omega) (by rw [List.length_map]; unfold maxLen; omega)).mono ?_; rintro e w4 ⟨rfl, hd⟩
  have hB4 := hB3.trans (hd.below.mono hB3.size)
  clear k1 k2 s1 s2 hB3 hd
  go_wp2_with fail
  go_ret
  exact ⟨ret_bool (by unfold same; simp), hB4⟩
end Go.Proofs.YtgplcbobomainaaDoor
