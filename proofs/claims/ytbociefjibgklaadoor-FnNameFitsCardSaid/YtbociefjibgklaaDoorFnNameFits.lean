/-
  The law FnNameFits returns true: each name of a file with at most one dot fits a setting if the tags that it asks for are met, for every setting and every list of names.
-/
import Derived.Test.YtbociefjibgklaaDoorFrameA
import Derived.Test.YtbociefjibgklaaDoorNameLaw
import Derived.WalkKit
import Derived.Below
import Derived.ShutString
namespace Go.Proofs.YtbociefjibgklaaDoor.fnNameFits
open Go.ChangeShapes Go.WideShapes Go.ChangeAt Go.RowKit
open Go.ChangeMaps (open_string shut_string)
set_option linter.unusedVariables false

theorem own : ownKnob Tryd.prog.godebug = none := by kernel_rfl
theorem laidOut : laidOutB Tryd.prog = true := by kernel_rfl

theorem contract (H : Type) (enc : TypeId × Value → H) (W : World) (base : Nat) (args : Array Value) (ds gs : List (DataW H)) (before : List MemPlace)
    (hval : ∀ (j : Nat) t v, Tryd.f5.params[j]? = some t → args[j]? = some v → Value.okWide Tryd.prog W .any base t v)
    (hW : DataW.Whole enc Tryd.prog Tryd.f5.params.toList Rows.fnNameFitsSpec.vars false W args.toList ds gs before) (hL : laidMetH Tryd.prog Rows.fnNameFitsRow.laid W) :
    Calls Tryd.prog 5 args W fun e W' => ∃ v, e = .returned v ∧ Rows.fnNameFitsSpec.post enc Tryd.prog Tryd.f5 false true false false W args v W' := by
  have hW' := hW
  obtain ⟨p, q, hA0, hV, rfl, hfz, hnd⟩ := hW
  have hA : DataW.TrodAll enc Tryd.prog W 0 (fun _ => true) true Tryd.f5.params.toList args.toList ds p := hA0
  rw [Tryd.params5] at hA hval
  obtain ⟨v0, vs0, d0, ds0, p0, q0, hargs, rfl, rfl, h0, r0⟩ := trodAll_cons hA
  obtain ⟨v1, vs1, d1, ds1, p1, q1, rfl, rfl, rfl, h1, r1⟩ := trodAll_cons r0
  obtain ⟨rfl, rfl, rfl⟩ := trodAll_nil r1
  obtain rfl : args = #[v0, v1] := by cases args; simp_all
  have k0 := h0
  have lt0 : ∀ x ∈ p0, x.block < W.heap.size := by obtain ⟨m, hm⟩ := k0; exact DataW.trod_lt m _ _ _ hm
  obtain ⟨S0, rfl, hS0⟩ := stg_of (hval 0 _ v0 rfl rfl) h0 lt0
  obtain ⟨a1, len1, cap1, rfl⟩ := okWide_slice Tryd.underlying22 (hval 1 _ v1 rfl rfl)
  have k1 := h1
  have lt1 : ∀ x ∈ p1, x.block < W.heap.size := by obtain ⟨m, hm⟩ := k1; exact DataW.trod_lt m _ _ _ hm
  obtain ⟨ss1, hl1, w1, hc1, hm1⟩ : ∃ ss : List ByteArray, len1 = ss.length ∧ Strs W a1 ss ∧ ss.length ≤ cap1 ∧ cap1 ≤ maxLen := by
    obtain ⟨fuel, hf⟩ := h1
    exact strs_of_trod Tryd.underlying22 Tryd.underlying9 cells_str (by simpa [Value.cells] using hf) lt1
  subst hl1
  clear hA0
  obtain ⟨g1, g2, g3, rfl⟩ : ∃ g1 g2 g3, gs = [g1, g2, g3] := trodVars_len3 hV
  refine (nameFitsLaw S0 a1 ss1 cap1 W hS0 w1 (Nat.le_trans hc1 hm1) (all_of_laid hL)).mono fun e W' ⟨he, bel⟩ => ?_
  subst he
  exact ⟨_, rfl, _, _, _, [], _, _, hW', trodAll_mk1 (shut_bool Tryd.underlying4 _), (trodAll_cons_mk (Below.trod laidOut (by kernel_rfl) (of_decide_eq_true (by kernel_rfl)) k0 bel lt0) (trodAll_cons_mk (Below.trod laidOut (by kernel_rfl) (of_decide_eq_true (by kernel_rfl)) k1 bel lt1) trodAll_mk0)), Below.trodVars laidOut bel (by kernel_rfl) hV, bel.frame _, fun h => by cases h⟩

/-- A world for the witness: the door's own. -/
def argsW : Array Value := #[.agg #[.string ByteArray.empty, .string ByteArray.empty, .bool false, .string ByteArray.empty, .slice none 0 0, .slice none 0 0, .slice none 0 0], .slice none 0 0]
theorem door_met (os : Os) : laidMet Tryd.prog Rows.fnNameFitsRow.laid ((World.doorLaid Tryd.prog 400 os).forCall (fun _ _ => 0) ⟨#[], argsW, []⟩).memory :=
  laidMet_of_run' 8 (by kernel_rfl) (by kernel_rfl)
def dsW (H : Type) : List (DataW H) := [.agg [.lit (.string []), .lit (.string []), .lit (.bool false), .lit (.string []), .nil, .nil, .nil], .nil]
def gsW (H : Type) : List (DataW H) := [Rows.laid_loop_example_pub_g01463_pub_syslist_KnownOS, Rows.laid_loop_example_pub_g01463_pub_syslist_KnownArch, Rows.laid_loop_example_pub_g01463_pub_syslist_UnixOS]
theorem reads (os : Os) {H : Type} (enc : TypeId × Value → H) : ∃ places, DataW.whole enc Tryd.prog ((World.doorLaid Tryd.prog 400 os).forCall (fun _ _ => 0) ⟨#[], argsW, []⟩).memory Tryd.f5.params.toList Rows.fnNameFitsSpec.vars false argsW.toList 8 = some (dsW H, gsW H, places) := by
  have h : (DataW.whole enc Tryd.prog ((World.doorLaid Tryd.prog 400 os).forCall (fun _ _ => 0) ⟨#[], argsW, []⟩).memory Tryd.f5.params.toList Rows.fnNameFitsSpec.vars false argsW.toList 8).map (fun x => (x.1, x.2.1)) = some (dsW H, gsW H) := by kernel_rfl
  obtain ⟨⟨a, b, c⟩, h1, h2⟩ := Option.map_eq_some_iff.1 h
  simp only [Prod.mk.injEq] at h2
  obtain ⟨rfl, rfl⟩ := h2
  exact ⟨c, h1⟩

set_option maxRecDepth 100000 in
theorem lifted (os : Os) (started : os.Started) (H : Type) (enc : TypeId × Value → H) (F : Stop.Interp) :
    ReturnsInHanded {} Tryd.checked os 5 .any ((OpenSpec.ofChange Rows.fnNameFitsSpec).preRow enc Tryd.prog Tryd.f5 Rows.fnNameFitsRow.domain false Rows.fnNameFitsRow.laid) (((OpenSpec.ofChange Rows.fnNameFitsSpec).at F).post enc Tryd.prog Tryd.f5 false true false false) := by
  obtain ⟨places, hx⟩ := reads os enc
  refine returnsInHanded_of_row (C := Tryd.checked) (s := OpenSpec.ofChange Rows.fnNameFitsSpec) own started (by kernel_rfl) Tryd.func5
    (witness_row_atRef (enc := enc) (C := Tryd.checked) false (World.doorLaid Tryd.prog 400 os) argsW rfl (by kernel_rfl) (by kernel_rfl) (by kernel_rfl)
      (OpenSpec.preRow_of_cond 8 hx (by kernel_rfl) (fun k hk => by cases hk) (by kernel_rfl) (door_met os))) ?_
  intro W base args ds gs before hval hW _ _ _ hL _ _
  exact contract H enc W base args ds gs before hval hW hL

theorem said : Rows.FnNameFitsSaid :=
  OpenClaim.holds_of_cond 5 Tryd.f5 rfl rfl rfl rfl rfl rfl rfl ⟨rfl, rfl, rfl, rfl, rfl⟩ rfl rfl rfl rfl rfl (by kernel_rfl) Tryd.func5 (by kernel_rfl)
    (of_decide_eq_true (by kernel_rfl)) (by unfold Func.isWrapper; first | (rw [if_pos (by decide +kernel)]; kernel_rfl) | (rw [if_neg (by decide +kernel)]; exact ⟨rfl, rfl⟩))
    (fun os started H enc _ F => by rw [OpenClaim.pre_eq_preRow]; exact lifted os started H enc F)

theorem plain (f : FuncId) (fn : Func) (hf : Tryd.pinned.checked.prog.funcNamed "loop.example/pub-g01463/laws.FnNameFits" = some f) (hfn : Tryd.pinned.checked.prog.funcs[f]? = some fn) :
    false = Tryd.pinned.checked.prog.looks [] ∧ ∀ (j : Nat) t, fn.params[j]? = some t → Tryd.pinned.checked.prog.wantsStandIn t = false := by
  obtain rfl : f = 5 := Option.some.inj ((show Tryd.prog.funcNamed "loop.example/pub-g01463/laws.FnNameFits" = some 5 by kernel_rfl).symm.trans hf) |>.symm
  obtain rfl : fn = Tryd.f5 := (Option.some.inj (Tryd.func5.symm.trans hfn)).symm
  refine ⟨by kernel_rfl, fun j t ht => ?_⟩
  have hall : (Tryd.f5.params.all fun t => !Tryd.prog.wantsStandIn t) = true := by kernel_rfl
  have := Array.all_eq_true_iff_forall_mem.1 hall t (Array.mem_of_getElem? ht)
  exact (by simpa using this : Tryd.prog.wantsStandIn t = false)

theorem proved : Rows.FnNameFitsCardSaid :=
  Claim7.holds_tied_plain_at .later [] _ _ _ _ said (fun _ h => by cases h) (by kernel_rfl) (fun _ h => by cases h) fnNameFits_row_tie rfl ⟨rfl, rfl⟩ (by kernel_rfl) rfl plain (by kernel_rfl)
#print axioms proved
end Go.Proofs.YtbociefjibgklaaDoor.fnNameFits
