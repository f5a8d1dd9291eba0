/-
  DERIVED. GIVEN WITH THE SEED: THE PROGRAM's TIES (one call each: nine closed facts by the kernel) AND EACH ROW's TIE, after the 31st guide's Derived/Test/Toyas{Tie, Card}.lean. No idea stands in it: it is a product of the set-up. Laid BY PROGRAM, IN A SANDBOX (cutbox-door.mjs). By AI agents, Wed Nov 11 2026. No macro, syntax, notation, axiom, sorry.
-/
import Derived.Test.YtbociefjibgklaaDoorRows
import Derived.LaidByTextLater
import Derived.SevenTiedAt
import Derived.LaidSub
import Derived.LaidOnce
namespace Go.Proofs.YtbociefjibgklaaDoor
open Go
set_option maxRecDepth 100000
theorem seatTie1 : Tryd.prog.laidByTextLater [("loop.example/pub-g01463/pub/syslist.KnownOS", Rows.laid_loop_example_pub_g01463_pub_syslist_KnownOS), ("loop.example/pub-g01463/pub/syslist.UnixOS", Rows.laid_loop_example_pub_g01463_pub_syslist_UnixOS), ("loop.example/pub-g01463/pub/syslist.KnownArch", Rows.laid_loop_example_pub_g01463_pub_syslist_KnownArch)] [.mapped, .mapped, .mapped] true :=
  Program.laidByTextLater_by_one 294 8 2 (by kernel_rfl) (by kernel_rfl) (by kernel_rfl) (by kernel_rfl) (by kernel_rfl) (by kernel_rfl) (fun _ _ => by kernel_rfl)
theorem noOwnUnsafe : Tryd.pinned.checked.prog.headLifts.contains "ownunsafe" = false := by kernel_rfl
theorem tie : Tryd.prog.laidByTextLater [("loop.example/pub-g01463/pub/syslist.UnixOS", Rows.laid_loop_example_pub_g01463_pub_syslist_UnixOS)] [.mapped] true :=
  Program.laidByTextLater.sub seatTie1 ["loop.example/pub-g01463/pub/syslist.UnixOS"] (by kernel_rfl) (by kernel_rfl)
theorem fnTagMet_row_tie : Rows.fnTagMetRow.laidByTextAt .later Tryd.pinned [.mapped] true :=
  OpenClaim.laidByTextAt_later rfl rfl tie noOwnUnsafe
theorem fnTagMore_row_tie : Rows.fnTagMoreRow.laidByTextAt .later Tryd.pinned [.mapped] true :=
  OpenClaim.laidByTextAt_later rfl rfl tie noOwnUnsafe
theorem tie2 : Tryd.prog.laidByTextLater [("loop.example/pub-g01463/pub/syslist.KnownOS", Rows.laid_loop_example_pub_g01463_pub_syslist_KnownOS), ("loop.example/pub-g01463/pub/syslist.UnixOS", Rows.laid_loop_example_pub_g01463_pub_syslist_UnixOS), ("loop.example/pub-g01463/pub/syslist.KnownArch", Rows.laid_loop_example_pub_g01463_pub_syslist_KnownArch)] [.mapped, .mapped, .mapped] true :=
  Program.laidByTextLater.sub seatTie1 ["loop.example/pub-g01463/pub/syslist.KnownOS", "loop.example/pub-g01463/pub/syslist.UnixOS", "loop.example/pub-g01463/pub/syslist.KnownArch"] (by kernel_rfl) (by kernel_rfl)
theorem fnNameFits_row_tie : Rows.fnNameFitsRow.laidByTextAt .later Tryd.pinned [.mapped, .mapped, .mapped] true :=
  OpenClaim.laidByTextAt_later rfl rfl tie2 noOwnUnsafe
theorem fnNameParts_row_tie : Rows.fnNamePartsRow.laidByTextAt .later Tryd.pinned [.mapped, .mapped, .mapped] true :=
  OpenClaim.laidByTextAt_later rfl rfl tie2 noOwnUnsafe
theorem fnTagMetUpto_row_tie : Rows.fnTagMetUptoRow.laidByTextAt .later Tryd.pinned [.mapped] true :=
  OpenClaim.laidByTextAt_later rfl rfl tie noOwnUnsafe
theorem fnTagMoreUpto_row_tie : Rows.fnTagMoreUptoRow.laidByTextAt .later Tryd.pinned [.mapped] true :=
  OpenClaim.laidByTextAt_later rfl rfl tie noOwnUnsafe
theorem fnNameFitsUpto_row_tie : Rows.fnNameFitsUptoRow.laidByTextAt .later Tryd.pinned [.mapped, .mapped, .mapped] true :=
  OpenClaim.laidByTextAt_later rfl rfl tie2 noOwnUnsafe
theorem fnNamePartsUpto_row_tie : Rows.fnNamePartsUptoRow.laidByTextAt .later Tryd.pinned [.mapped, .mapped, .mapped] true :=
  OpenClaim.laidByTextAt_later rfl rfl tie2 noOwnUnsafe
end Go.Proofs.YtbociefjibgklaaDoor
