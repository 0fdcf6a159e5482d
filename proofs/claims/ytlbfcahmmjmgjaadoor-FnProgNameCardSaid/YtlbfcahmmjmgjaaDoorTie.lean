/-
  DERIVED. GIVEN WITH THE SEED: THE PROGRAM's TIES (one call each: nine closed facts by the kernel) AND EACH ROW's TIE, after the 31st guide's Derived/Test/Toyas{Tie, Card}.lean. No idea stands in it: it is a product of the set-up. Laid BY PROGRAM, IN A SANDBOX (cutbox-door.mjs). By AI agents, Wed Nov 11 2026. No macro, syntax, notation, axiom, sorry.
-/
import Derived.Test.YtlbfcahmmjmgjaaDoorRows
import Derived.LaidByTextLater
import Derived.SevenTiedAt
import Derived.LaidSub
import Derived.LaidOnce
namespace Go.Proofs.YtlbfcahmmjmgjaaDoor
open Go
set_option maxRecDepth 100000
theorem seatTie1 : Tryd.prog.laidByTextLater [("loop.example/pub-g03127/pub/regexp.matchSize", Rows.laid_loop_example_pub_g03127_pub_regexp_matchSize), ("loop.example/pub-g03127/pub/regexp.specialBytes", Rows.laid_loop_example_pub_g03127_pub_regexp_specialBytes)] [.data, .data] true :=
  Program.laidByTextLater_by_one 19 8 17 (by kernel_rfl) (by kernel_rfl) (by kernel_rfl) (by kernel_rfl) (by kernel_rfl) (by kernel_rfl) (fun _ _ => by kernel_rfl)
theorem noOwnUnsafe : Tryd.pinned.checked.prog.headLifts.contains "ownunsafe" = false := by kernel_rfl
theorem tie : Tryd.prog.laidByTextLater [("loop.example/pub-g03127/pub/regexp.specialBytes", Rows.laid_loop_example_pub_g03127_pub_regexp_specialBytes)] [.data] true :=
  Program.laidByTextLater.sub seatTie1 ["loop.example/pub-g03127/pub/regexp.specialBytes"] (by kernel_rfl) (by kernel_rfl)
theorem fnPlainQuote_row_tie : Rows.fnPlainQuoteRow.laidByTextAt .later Tryd.pinned [.data] true :=
  OpenClaim.laidByTextAt_later rfl rfl tie noOwnUnsafe
theorem tie2 : Tryd.prog.laidByTextLater [("loop.example/pub-g03127/pub/regexp.matchSize", Rows.laid_loop_example_pub_g03127_pub_regexp_matchSize)] [.data] true :=
  Program.laidByTextLater.sub seatTie1 ["loop.example/pub-g03127/pub/regexp.matchSize"] (by kernel_rfl) (by kernel_rfl)
theorem fnProgName_row_tie : Rows.fnProgNameRow.laidByTextAt .later Tryd.pinned [.data] true :=
  OpenClaim.laidByTextAt_later rfl rfl tie2 noOwnUnsafe
theorem fnPlainQuoteUpto_row_tie : Rows.fnPlainQuoteUptoRow.laidByTextAt .later Tryd.pinned [.data] true :=
  OpenClaim.laidByTextAt_later rfl rfl tie noOwnUnsafe
theorem fnProgNameUpto_row_tie : Rows.fnProgNameUptoRow.laidByTextAt .later Tryd.pinned [.data] true :=
  OpenClaim.laidByTextAt_later rfl rfl tie2 noOwnUnsafe
end Go.Proofs.YtlbfcahmmjmgjaaDoor
