/-
  bufio: Buffered, Discard, Peek.
-/
import Derived.Test.YtgplcbobomainaaDoorRdG
import Derived.Deep.LoopGhost
namespace Go.Proofs.YtgplcbobomainaaDoor
open Go.RowKit
set_option linter.unusedVariables false
set_option linter.unusedSimpArgs false

theorem unread_drop {n : Nat} {bs l : List UInt8} (hn : 3 ≤ n) (hb : n ≤ bs.length) : (unread 0 n bs l).drop 3 = unread 3 n bs l := by
  unfold unread
  rw [List.drop_append_of_le_length (by simp; omega), List.drop_zero, Nat.sub_zero, List.drop_take]

theorem buffered_any {K : SK} {eb : Addr} {q B s d r n : Nat} {bs l : List UInt8} {pe : Bool} {lb lr : Int} {w : World} (h : BufAt K eb q B s d r n bs l pe lb lr w) :
    Calls Tryd.prog 61 #[.pointer (some ⟨q, 0, none⟩)] w fun e w' => e = .returned (.int .i64 ((n : Int) - r)) ∧ Drawn w w' := by
  have hrn := h.rn
  have hn4 := h.n4
  obtain ⟨c0, c1, c2, c3, c4, c5, c6⟩ := h.cells
  obtain ⟨f2, f3, f4, f5, f6⟩ := h.thaw
  have hw : IntKind.i64.wrap ((n : Int) - r) = (n : Int) - r := IntWalk.i64_in _ (by omega)
  go_enter Tryd.func61, Tryd.ntmps61
  go_wp2_with fail
  go_quiet (fail)
  go_wp2_with fail
  go_ret
  exact ⟨rfl, ⟨_, rfl⟩⟩

set_option maxRecDepth 100000 in
set_option maxHeartbeats 1000000 in
theorem discard3_any {K : SK} {eb : Addr} {q B s d n : Nat} {bs l : List UInt8} {pe : Bool} {lb lr : Int} {w : World} (h : BufAt K eb q B s d 0 n bs l pe lb lr w) (hn : 3 ≤ n) :
    Calls Tryd.prog 51 #[.pointer (some ⟨q, 0, none⟩), .int .i64 3] w fun e w' => (∃ v, e = .returned v) ∧ BufSt K eb q B s d ((unread 0 n bs l).drop 3) w' ∧ Fr [q, B, s] w w' := by
  have hn4 := h.n4
  obtain ⟨c0, c1, c2, c3, c4, c5, c6⟩ := h.cells
  obtain ⟨f2, f3, f4, f5, f6⟩ := h.thaw
  have h1 := h.put (r' := 0) (n' := n) (pe' := pe) (lb' := -1) (lr' := lr) 5 (.int .i64 (-1)) rfl h.rn hn4 h.pend
  have hF1 := (Fr.refl [q, B, s] w).setCell (p := ⟨q, 5, none⟩) (by simp) (.int .i64 (-1))
  go_enter Tryd.func51, Tryd.ntmps51
  go_upto_region 5 with fail
  clear c0 c1 c2 c3 c4 c5 c6 f2 f3 f4 f5 f6 h
  generalize w.setCell ⟨q, 5, none⟩ _ = w1 at *
  obtain ⟨c0, c1, c2, c3, c4, c5, c6⟩ := h1.cells
  obtain ⟨f2, f3, f4, f5, f6⟩ := h1.thaw
  have h2 := h1.put (r' := 0) (n' := n) (pe' := pe) (lb' := -1) (lr' := -1) 6 (.int .i64 (-1)) rfl h1.rn hn4 h1.pend
  have hF2 := hF1.setCell (p := ⟨q, 6, none⟩) (by simp) (.int .i64 (-1))
  go_upto_region 6 with fail
  clear c0 c1 c2 c3 c4 c5 c6 f2 f3 f4 f5 f6 h1 hF1
  generalize w1.setCell ⟨q, 6, none⟩ _ = w2 at *
  go_wp2_with fail
  refine wp_loop_rounds 1 ?_; rw [rounds_succ]
  go_wp2_with fail
  refine (buffered_any h2).mono ?_; rintro e w3 ⟨rfl, hd⟩
  have h3 : BufAt K eb q B s d 0 n bs l pe (-1) (-1) w3 := by obtain ⟨m, rfl⟩ := hd; exact h2.drewN m
  have hF3 := hF2.trans (Fr.of_drawn hd)
  clear h2 hF2 hd
  obtain ⟨c0, c1, c2, c3, c4, c5, c6⟩ := h3.cells
  obtain ⟨f2, f3, f4, f5, f6⟩ := h3.thaw
  have hne : ((n : Int) == 0) = false := by rw [beq_eq_false_iff_ne]; omega
  have e0 : ((n : Int) - ((0 : Nat) : Int)) = (n : Int) := by omega
  rw [e0]
  clear e0
  rcases Nat.lt_or_ge 3 n with h4 | h4
  · go_wp2_with fail
    go_ret2
    exact ⟨⟨_, rfl⟩, ⟨_, _, _, _, _, _, _, h3.put (r' := 3) (n' := n) (pe' := pe) (lb' := -1) (lr' := -1) 2 _ rfl (by omega) hn4 h3.pend, (unread_drop hn (by rw [h3.blen]; omega)).symm⟩, hF3.setCell (p := ⟨q, 2, none⟩) (by simp) _⟩
  · obtain rfl : n = 3 := by omega
    go_wp2_with fail
    go_ret2
    exact ⟨⟨_, rfl⟩, ⟨_, _, _, _, _, _, _, h3.put (r' := 3) (n' := 3) (pe' := pe) (lb' := -1) (lr' := -1) 2 _ rfl (by omega) hn4 h3.pend, (unread_drop hn (by rw [h3.blen]; omega)).symm⟩, hF3.setCell (p := ⟨q, 2, none⟩) (by simp) _⟩

/-- While three bytes are awaited. -/
def PeekRel (K : SK) (eb : Addr) (q B s d : Nat) (rest : List UInt8) (w0 : World) (k : Nat) (w : World) : Prop :=
  ∃ n bs l pe lb lr, BufAt K eb q B s d 0 n bs l pe lb lr w ∧ unread 0 n bs l = rest ∧ Fr [q, B, s] w0 w ∧ (3 - n) + (if pe = true then 0 else 1) ≤ k
/-- What three bytes ahead are. -/
def PeekPost (K : SK) (eb : Addr) (q B s d : Nat) (rest : List UInt8) (w0 : World) (e : Ending) (w : World) : Prop :=
  Fr [q, B, s] w0 w ∧ ∃ n bs l pe lb lr, BufAt K eb q B s d 0 n bs l pe lb lr w ∧ unread 0 n bs l = rest ∧
    ((3 ≤ n ∧ e = .returned (.tuple #[.slice (some ⟨B, 0, none⟩) 3 4096, .nilIface])) ∨ (rest.length < 3 ∧ ∃ v, e = .returned (.tuple #[v, errV eb])))

set_option maxRecDepth 100000 in
set_option maxHeartbeats 2000000 in
theorem peek3_any {K : SK} {eb : Addr} {q B s d : Nat} {bs l : List UInt8} {lb lr : Int} {w : World} (h : BufAt K eb q B s d 0 0 bs l false lb lr w) :
    Calls Tryd.prog 48 #[.pointer (some ⟨q, 0, none⟩), .int .i64 3] w (PeekPost K eb q B s d l w) := by
  obtain ⟨c0, c1, c2, c3, c4, c5, c6⟩ := h.cells
  obtain ⟨f2, f3, f4, f5, f6⟩ := h.thaw
  have h1 := h.put (r' := 0) (n' := 0) (pe' := false) (lb' := -1) (lr' := lr) 5 (.int .i64 (-1)) rfl h.rn h.n4 h.pend
  have hF1 := (Fr.refl [q, B, s] w).setCell (p := ⟨q, 5, none⟩) (by simp) (.int .i64 (-1))
  go_enter Tryd.func48, Tryd.ntmps48
  go_upto_region 4 with fail
  clear c0 c1 c2 c3 c4 c5 c6 f2 f3 f4 f5 f6 h
  generalize w.setCell ⟨q, 5, none⟩ _ = w1 at *
  obtain ⟨c0, c1, c2, c3, c4, c5, c6⟩ := h1.cells
  obtain ⟨f2, f3, f4, f5, f6⟩ := h1.thaw
  have h2 := h1.put (r' := 0) (n' := 0) (pe' := false) (lb' := -1) (lr' := -1) 6 (.int .i64 (-1)) rfl h1.rn h1.n4 h1.pend
  have hF2 := hF1.setCell (p := ⟨q, 6, none⟩) (by simp) (.int .i64 (-1))
  go_upto_region 5 with fail
  clear c0 c1 c2 c3 c4 c5 c6 f2 f3 f4 f5 f6 h1 hF1
  generalize w1.setCell ⟨q, 6, none⟩ _ = w2 at *
  go_wp2_with fail
  go_loopg [] 5 (fun k wr => PeekRel K eb q B s d l w k wr)
  case atStart => exact ⟨0, bs, l, false, _, _, h2, unread_end, hF2, by simp⟩
  case round =>
    obtain ⟨n, bs, l', pe, lb, lr, h3, hun, hF3, hk⟩ := hrel
    have HUN := Lib.hid hun
    clear hun h2 hF2
    have hn4 := h3.n4
    obtain ⟨c0, c1, c2, c3, c4, c5, c6⟩ := h3.cells
    obtain ⟨f2, f3, f4, f5, f6⟩ := h3.thaw
    have c2' : wr.cell? ⟨q, 2, none⟩ = some (.int .i64 0) := c2
    clear c2
    rcases Nat.lt_or_ge n 3 with hn | hn
    · have hd1 : decide ((n : Int) < 3) = true := by rw [decide_eq_true_eq]; omega
      have hd2 : decide ((n : Int) < 4096) = true := by rw [decide_eq_true_eq]; omega
      cases pe
      · have e4 : wr.cell? ⟨q, 4, none⟩ = some .nilIface := c4
        clear c4
        go_wp2_with fail
        go_quiet (fail)
        have h4 := h3.drewN nq
        have hF4 := hF3.drewN nq
        clear c0 c1 c2' c3 e4 c5 c6 f2 f3 f4 f5 f6 hd1 hd2 h3 hF3
        generalize wr.drewN nq = w4 at *
        go_wp2_with fail
        refine (fill_any h4 (.inl rfl) (by omega)).mono ?_; rintro e w5 ⟨rfl, hF5, n5, bs5, l5, pe5, lb5, lr5, h5, hun5, hor⟩
        have HUN5 := Lib.hid (hun5.trans HUN.out)
        have HOR := Lib.hid hor
        clear hun5 hor
        go_wp2_with fail
        go_roundg (gk - 1)
        case rel => exact ⟨n5, bs5, l5, pe5, lb5, lr5, h5, HUN5.out, hF4.trans hF5, by
          rcases HOR.out with ⟨_, rfl, he⟩ | ⟨rfl, he⟩
          · simp at hk ⊢; omega
          · simp at hk ⊢; omega⟩
        all_goals (simp at hk; omega)
      · obtain rfl : l' = [] := h3.pend rfl
        have HS : Hid (l.length < 3) := Lib.hid <| by
          rw [← HUN.out]
          unfold unread
          simp only [List.drop_zero, Nat.sub_zero, List.append_nil, List.length_take]; omega
        have e4 : wr.cell? ⟨q, 4, none⟩ = some (errV eb) := c4
        unfold errV at e4
        clear c4
        go_wp2_with fail
        go_quiet (fail)
        have h4 := h3.drewN nq
        have hF4 := hF3.drewN nq
        clear c0 c1 c2' c3 e4 c5 c6 f2 f3 f4 f5 f6 h3 hF3
        generalize wr.drewN nq = w4 at *
        obtain ⟨c0, c1, c2, c3, c4, c5, c6⟩ := h4.cells
        obtain ⟨f2, f3, f4, f5, f6⟩ := h4.thaw
        have c2' : w4.cell? ⟨q, 2, none⟩ = some (.int .i64 0) := c2
        clear c2
        go_wp2_with fail
        go_quiet (fail)
        have h5 := h4.drewN nq
        have hF5 := hF4.drewN nq
        clear c0 c1 c2' c3 c4 c5 c6 f2 f3 f4 f5 f6 h4 hF4
        generalize w4.drewN nq = w5 at *
        go_wp2_with fail
        refine (readErr_any h5).mono ?_; rintro e w6 ⟨rfl, h6, hF6⟩
        have hF7 := hF5.trans hF6
        clear h5 hF5 hF6
        unfold errP errV
        obtain ⟨c0, c1, c2, c3, c4, c5, c6⟩ := h6.cells
        obtain ⟨f2, f3, f4, f5, f6⟩ := h6.thaw
        have c2' : w6.cell? ⟨q, 2, none⟩ = some (.int .i64 0) := c2
        clear c2
        have hi0 : (0 : Int) ≤ (n : Int) := by omega
        have hi1 : (n : Int) ≤ (4096 : Int) := by omega
        go_wp2_with fail
        go_quiet (fail)
        go_wp2_with fail
        go_ret2
        exact ⟨hF7.drewN _, n, bs, [], false, lb, lr, h6.drewN _, HUN.out, .inr ⟨HS.out, _, rfl⟩⟩
    · have hd1 : decide ((n : Int) < 3) = false := by rw [decide_eq_false_iff_not]; omega
      go_wp2_with fail
      go_quiet (fail)
      have h4 := h3.drewN nq
      have hF4 := hF3.drewN nq
      clear c0 c1 c2' c3 c4 c5 c6 f2 f3 f4 f5 f6 h3 hF3
      generalize wr.drewN nq = w4 at *
      obtain ⟨c0, c1, c2, c3, c4, c5, c6⟩ := h4.cells
      obtain ⟨f2, f3, f4, f5, f6⟩ := h4.thaw
      have c2' : w4.cell? ⟨q, 2, none⟩ = some (.int .i64 0) := c2
      clear c2
      go_wp2_with fail
      go_quiet (fail)
      have h5 := h4.drewN nq
      have hF5 := hF4.drewN nq
      clear c0 c1 c2' c3 c4 c5 c6 f2 f3 f4 f5 f6 h4 hF4
      generalize w4.drewN nq = w5 at *
      obtain ⟨c0, c1, c2, c3, c4, c5, c6⟩ := h5.cells
      obtain ⟨f2, f3, f4, f5, f6⟩ := h5.thaw
      have c2' : w5.cell? ⟨q, 2, none⟩ = some (.int .i64 0) := c2
      clear c2
      go_wp2_with fail
      go_quiet (fail)
      go_wp2_with fail
      go_ret2
      exact ⟨hF5.drewN _, n, bs, l', pe, lb, lr, h5.drewN _, HUN.out, .inl ⟨hn, rfl⟩⟩
end Go.Proofs.YtgplcbobomainaaDoor
