/-
  bufio: ReadByte, Buffered.
-/
import Derived.Test.YtgplcbobomainaaDoorRdF
namespace Go.Proofs.YtgplcbobomainaaDoor
open Go.RowKit
set_option linter.unusedVariables false
set_option linter.unusedSimpArgs false

/-- A bufio.Reader from which these bytes are still to come. -/
def BufSt (K : SK) (eb : Addr) (q B s d : Nat) (rest : List UInt8) (w : World) : Prop :=
  ∃ r n bs l pe lb lr, BufAt K eb q B s d r n bs l pe lb lr w ∧ unread r n bs l = rest

theorem BufAt.byte {K : SK} {eb : Addr} {q B s d r n : Nat} {bs l : List UInt8} {pe : Bool} {lb lr : Int} {w : World} (h : BufAt K eb q B s d r n bs l pe lb lr w) {i : Nat} (hi : i < bs.length) : w.cell? ⟨B, i, none⟩ = some (.int .u8 (bs[i].toNat : Int)) := by
  rw [cells_row h.brow i]
  simp [bv, hi]
theorem unread_cons {r n : Nat} {bs l : List UInt8} (h : r < n) (hl : r < bs.length) : unread r n bs l = bs[r] :: unread (r + 1) n bs l := by
  unfold unread
  rw [List.drop_eq_getElem_cons hl, show n - r = (n - (r + 1)) + 1 by omega, List.take_succ_cons, List.cons_append]
theorem unread_end {n : Nat} {bs l : List UInt8} : unread n n bs l = l := by unfold unread; simp

/-- What ReadByte does. -/
def rbVal (eb : Addr) : List UInt8 → Value
  | [] => .tuple #[.int .u8 0, errV eb]
  | c :: _ => .tuple #[.int .u8 (c.toNat : Int), .nilIface]
def RbPost (K : SK) (eb : Addr) (q B s d : Nat) (rest : List UInt8) (w : World) (e : Ending) (w' : World) : Prop :=
  e = .returned (rbVal eb rest) ∧ BufSt K eb q B s d rest.tail w' ∧ Fr [q, B, s] w w'

set_option maxRecDepth 100000 in
set_option maxHeartbeats 2000000 in
theorem readByteB_any {K : SK} {eb : Addr} {q B s d : Nat} {rest : List UInt8} {w : World} (h : BufSt K eb q B s d rest w) :
    Calls Tryd.prog 56 #[.pointer (some ⟨q, 0, none⟩)] w (RbPost K eb q B s d rest w) := by
  obtain ⟨r, n, bs, l, pe, lb, lr, h0, hun⟩ := h
  have HUN := Lib.hid hun
  clear hun
  obtain ⟨c0, c1, c2, c3, c4, c5, c6⟩ := h0.cells
  obtain ⟨f2, f3, f4, f5, f6⟩ := h0.thaw
  have hrn := h0.rn
  have hn4 := h0.n4
  have h1 := h0.put (r' := r) (n' := n) (pe' := pe) (lb' := lb) (lr' := -1) 6 (.int .i64 (-1)) rfl hrn hn4 h0.pend
  have hF1 := (Fr.refl [q, B, s] w).setCell (p := ⟨q, 6, none⟩) (by simp) (.int .i64 (-1))
  go_enter Tryd.func56, Tryd.ntmps56
  go_wp2_with fail
  clear c0 c1 c2 c3 c4 c5 c6 f2 f3 f4 f5 f6 h0
  generalize w.setCell ⟨q, 6, none⟩ _ = w1 at *
  obtain ⟨c0, c1, c2, c3, c4, c5, c6⟩ := h1.cells
  obtain ⟨f2, f3, f4, f5, f6⟩ := h1.thaw
  rcases Nat.lt_or_ge r n with hlt0 | hge
  · have hne : ((r : Int) == (n : Int)) = false := by rw [beq_eq_false_iff_ne]; omega
    refine wp_loop_rounds 1 ?_; rw [rounds_succ]
    go_wp2_with fail
    go_quiet (fail)
    go_wp2_with fail
    have h2 := h1.drewN nq
    have hF2 := hF1.drewN nq
    clear c0 c1 c2 c3 c4 c5 c6 f2 f3 f4 f5 f6 h1 hF1 hne
    generalize w1.drewN nq = w2 at *
    obtain ⟨c0, c1, c2, c3, c4, c5, c6⟩ := h2.cells
    obtain ⟨f2, f3, f4, f5, f6⟩ := h2.thaw
    have hlt : r < bs.length := by rw [h2.blen]; have := h2.n4; omega
    have cB : w2.cell? ⟨B, r, none⟩ = some (.int .u8 (bs[r].toNat : Int)) := h2.byte hlt
    have hi0 : (0 : Int) ≤ (r : Int) := by omega
    have hi1 : (r : Int) < (4096 : Int) := by have := h2.n4; omega
    have HU := Lib.hid ((HUN.out).symm.trans (unread_cons hlt0 hlt))
    generalize bs[r] = c at *
    go_quiet (fail)
    go_wp2_with fail
    have h5 := h2.drewN nq
    have hF5 := hF2.drewN nq
    clear c0 c1 c2 c3 c4 c5 c6 f2 f3 f4 f5 f6 cB
    generalize w2.drewN nq = w5 at *
    obtain ⟨c0, c1, c2, c3, c4, c5, c6⟩ := h5.cells
    obtain ⟨f2, f3, f4, f5, f6⟩ := h5.thaw
    go_upto_region 8 with fail
    have h6 := h5.put (r' := r + 1) (n' := n) (pe' := pe) (lb' := lb) (lr' := (-1)) 2 (.int .i64 ((r : Int) + 1)) rfl (by omega) h5.n4 h5.pend
    have hF6 := hF5.setCell (p := ⟨q, 2, none⟩) (by simp) (.int .i64 ((r : Int) + 1))
    clear c0 c1 c2 c3 c4 c5 c6 f2 f3 f4 f5 f6 h5 hF5
    generalize w5.setCell ⟨q, 2, none⟩ _ = w6 at *
    obtain ⟨c0, c1, c2, c3, c4, c5, c6⟩ := h6.cells
    obtain ⟨f2, f3, f4, f5, f6⟩ := h6.thaw
    go_wp2_with fail
    go_ret2
    rw [HU.out]
    exact ⟨rfl, ⟨_, _, _, _, _, _, _, h6.put 5 _ rfl h6.rn h6.n4 h6.pend, rfl⟩, hF6.setCell (p := ⟨q, 5, none⟩) (by simp) _⟩
  · obtain rfl : r = n := by omega
    have hun : l = rest := unread_end.symm.trans HUN.out
    clear HUN
    cases pe
    · have HL := Lib.hid hun
      clear hun
      refine wp_loop_rounds 2 ?_; rw [rounds_succ]
      go_wp2_with fail
      go_quiet (fail)
      have h2 := h1.drewN nq
      have hF2 := hF1.drewN nq
      clear c0 c1 c2 c3 c4 c5 c6 f2 f3 f4 f5 f6 h1 hF1
      generalize w1.drewN nq = w2 at *
      obtain ⟨c0, c1, c2, c3, c4, c5, c6⟩ := h2.cells
      obtain ⟨f2, f3, f4, f5, f6⟩ := h2.thaw
      have e4 : w2.cell? ⟨q, 4, none⟩ = some .nilIface := c4
      clear c4
      go_wp2_with fail
      refine (fill_any h2 (.inr rfl) (by omega)).mono ?_; rintro e w3 ⟨rfl, hF3, n, bs3, l3, pe3, lb3, lr3, h3, hun3, hor⟩
      have hF4 := hF2.trans hF3
      clear c0 c1 c2 c3 e4 c5 c6 f2 f3 f4 f5 f6 h2 hF2 hF3
      have HU3 : Hid (unread 0 n bs3 l3 = rest) := Lib.hid (hun3.trans (unread_end.trans HL.out))
      clear hun3
      obtain ⟨c0, c1, c2, c3, c4, c5, c6⟩ := h3.cells
      obtain ⟨f2, f3, f4, f5, f6⟩ := h3.thaw
      go_wp2_with fail
      try rw [rounds_succ]
      rcases hor with ⟨hl, rfl, hn⟩ | ⟨rfl, hn⟩
      · obtain rfl : n = 0 := by omega
        obtain rfl : l3 = [] := h3.pend rfl
        have HRE : Hid (rest = []) := Lib.hid (HU3.out.symm.trans unread_end)
        clear hl hn HU3 HL
        have e4 : w3.cell? ⟨q, 4, none⟩ = some (errV eb) := c4
        unfold errV at e4
        clear c4
        go_wp2_with fail
        go_quiet (fail)
        have h5 := h3.drewN nq
        have hF5 := hF4.drewN nq
        have e5 : (w3.drewN nq).cell? ⟨q, 4, none⟩ = some (.iface 98 (.pointer (some eb))) := e4
        clear c0 c1 c2 c3 e4 c5 c6 f2 f3 f4 f5 f6 h3 hF4
        generalize w3.drewN nq = w5 at *
        go_wp2_with fail
        refine (readErr_any h5).mono ?_; rintro e w6 ⟨rfl, h6, hF6⟩
        go_wp2_with fail
        go_ret2
        rw [HRE.out]
        exact ⟨rfl, ⟨_, _, _, _, _, _, _, h6, unread_end⟩, hF5.trans hF6⟩
      · have hn' : 0 < n := by omega
        clear hn HL
        have hne : ((0 : Int) == (n : Int)) = false := by rw [beq_eq_false_iff_ne]; omega
        go_wp2_with fail
        go_quiet (fail)
        go_wp2_with fail
        have h5 := h3.drewN nq
        have hF5 := hF4.drewN nq
        clear c0 c1 c2 c3 c4 c5 c6 f2 f3 f4 f5 f6 h3 hF4 hne
        generalize w3.drewN nq = w4 at *
        obtain ⟨c0, c1, c2, c3, c4, c5, c6⟩ := h5.cells
        obtain ⟨f2, f3, f4, f5, f6⟩ := h5.thaw
        have hlt : 0 < bs3.length := by rw [h5.blen]; have := h5.n4; omega
        have cB : w4.cell? ⟨B, 0, none⟩ = some (.int .u8 (bs3[0].toNat : Int)) := h5.byte hlt
        have hi0 : (0 : Int) ≤ (0 : Int) := by omega
        have hi1 : (0 : Int) < (4096 : Int) := by have := h5.n4; omega
        have HU := Lib.hid ((HU3.out).symm.trans (unread_cons hn' hlt))
        generalize bs3[0] = c at *
        go_quiet (fail)
        go_wp2_with fail
        have h5 := h5.drewN nq
        have hF5 := hF5.drewN nq
        clear c0 c1 c2 c3 c4 c5 c6 f2 f3 f4 f5 f6 cB
        generalize w4.drewN nq = w5 at *
        obtain ⟨c0, c1, c2, c3, c4, c5, c6⟩ := h5.cells
        obtain ⟨f2, f3, f4, f5, f6⟩ := h5.thaw
        go_upto_region 8 with fail
        have h6 := h5.put (r' := 0 + 1) (n' := n) (pe' := false) (lb' := lb3) (lr' := lr3) 2 (.int .i64 1) rfl (by omega) h5.n4 h5.pend
        have hF6 := hF5.setCell (p := ⟨q, 2, none⟩) (by simp) (.int .i64 1)
        clear c0 c1 c2 c3 c4 c5 c6 f2 f3 f4 f5 f6 h5 hF5
        generalize w5.setCell ⟨q, 2, none⟩ _ = w6 at *
        obtain ⟨c0, c1, c2, c3, c4, c5, c6⟩ := h6.cells
        obtain ⟨f2, f3, f4, f5, f6⟩ := h6.thaw
        go_wp2_with fail
        go_ret2
        rw [HU.out]
        exact ⟨rfl, ⟨_, _, _, _, _, _, _, h6.put 5 _ rfl h6.rn h6.n4 h6.pend, rfl⟩, hF6.setCell (p := ⟨q, 5, none⟩) (by simp) _⟩
    · obtain rfl : l = [] := h1.pend rfl
      subst hun
      refine wp_loop_rounds 1 ?_; rw [rounds_succ]
      go_wp2_with fail
      go_quiet (fail)
      have h2 := h1.drewN nq
      have hF2 := hF1.drewN nq
      have e5 : (w1.drewN nq).cell? ⟨q, 4, none⟩ = some (.iface 98 (.pointer (some eb))) := c4
      clear c0 c1 c2 c3 c4 c5 c6 f2 f3 f4 f5 f6 h1 hF1
      generalize w1.drewN nq = w2 at *
      go_wp2_with fail
      refine (readErr_any h2).mono ?_; rintro e w6 ⟨rfl, h6, hF6⟩
      go_wp2_with fail
      go_ret2
      exact ⟨rfl, ⟨_, _, _, _, _, _, _, h6, unread_end⟩, hF2.trans hF6⟩
end Go.Proofs.YtgplcbobomainaaDoor
