/-
  DERIVED. GIVEN WITH THE SEED: THE PROGRAM's TIES (one call each: nine closed facts by the kernel) AND EACH ROW's TIE, after the 31st guide's Derived/Test/Toyas{Tie, Card}.lean. No idea stands in it: it is a product of the set-up. Laid BY PROGRAM, IN A SANDBOX (cutbox-door.mjs). By AI agents, Wed Nov 11 2026. No macro, syntax, notation, axiom, sorry.
-/
import Derived.Test.YtkcggbjpkjmclaaDoorRows
import Derived.LaidByTextLater
import Derived.SevenTiedAt
import Derived.LaidSub
import Derived.LaidOnce
namespace Go.Proofs.YtkcggbjpkjmclaaDoor
open Go
set_option maxRecDepth 100000
theorem seatTie1 : Tryd.prog.laidByTextLater [("margravel/pub/goldmark/util.urlTable", Rows.laid_margravel_pub_goldmark_util_urlTable)] [.data] true :=
  Program.laidByTextLater_by_one 19 8 257 (by kernel_rfl) (by kernel_rfl) (by kernel_rfl) (by kernel_rfl) (by kernel_rfl) (by kernel_rfl) (fun _ _ => by kernel_rfl)
theorem seatTie2 : Tryd.prog.laidByTextLater [("margravel/pub/goldmark/util.punctTable", Rows.laid_margravel_pub_goldmark_util_punctTable)] [.data] true :=
  Program.laidByTextLater_by_one 19 8 257 (by kernel_rfl) (by kernel_rfl) (by kernel_rfl) (by kernel_rfl) (by kernel_rfl) (by kernel_rfl) (fun _ _ => by kernel_rfl)
theorem noOwnUnsafe : Tryd.pinned.checked.prog.headLifts.contains "ownunsafe" = false := by kernel_rfl
theorem tie : Tryd.prog.laidByTextLater [("margravel/pub/goldmark/util.urlTable", Rows.laid_margravel_pub_goldmark_util_urlTable)] [.data] true :=
  Program.laidByTextLater.sub seatTie1 ["margravel/pub/goldmark/util.urlTable"] (by kernel_rfl) (by kernel_rfl)
theorem fnURL_row_tie : Rows.fnURLRow.laidByTextAt .later Tryd.pinned [.data] true :=
  OpenClaim.laidByTextAt_later rfl rfl tie noOwnUnsafe
theorem tie2 : Tryd.prog.laidByTextLater [("margravel/pub/goldmark/util.punctTable", Rows.laid_margravel_pub_goldmark_util_punctTable)] [.data] true :=
  Program.laidByTextLater.sub seatTie2 ["margravel/pub/goldmark/util.punctTable"] (by kernel_rfl) (by kernel_rfl)
theorem fnUnescape_row_tie : Rows.fnUnescapeRow.laidByTextAt .later Tryd.pinned [.data] true :=
  OpenClaim.laidByTextAt_later rfl rfl tie2 noOwnUnsafe
theorem fnURLUpto_row_tie : Rows.fnURLUptoRow.laidByTextAt .later Tryd.pinned [.data] true :=
  OpenClaim.laidByTextAt_later rfl rfl tie noOwnUnsafe
theorem fnUnescapeUpto_row_tie : Rows.fnUnescapeUptoRow.laidByTextAt .later Tryd.pinned [.data] true :=
  OpenClaim.laidByTextAt_later rfl rfl tie2 noOwnUnsafe
end Go.Proofs.YtkcggbjpkjmclaaDoor
