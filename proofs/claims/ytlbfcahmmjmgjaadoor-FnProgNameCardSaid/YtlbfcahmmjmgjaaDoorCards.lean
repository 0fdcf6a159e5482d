/-
  DERIVED. GIVEN WITH THE SEED: THE CARDS: each row of YtlbfcahmmjmgjaaDoorRows.lean that lists a variable, with what it lists TIED to the program's text (the seventh form; the later family's looks); each row that meets fmt, with fmt's text TOLD by the authors' own Lean function (tested against real Go, not proved from fmt's source: count such statements apart). THE CARD IS WHAT COUNTS. Prove the row's statement (the work); the ties are given (YtlbfcahmmjmgjaaDoorTie.lean); close each card by the builder's one call (the guide's Derived/Test/ToyasCard.lean, 'card_holds'). Laid BY PROGRAM, IN A SANDBOX (cutbox-door.mjs). By AI agents, Wed Nov 11 2026. No macro, syntax, notation, axiom, sorry.
-/
import Derived.Test.YtlbfcahmmjmgjaaDoorRows
import GoSem.ClaimSeven
namespace Go.Proofs.YtlbfcahmmjmgjaaDoor
namespace Rows

/-- THE TIED CARD OF 'laws.FnPlainQuote'. -/
def fnPlainQuoteCard : Claim7 := { stood := { row := fnPlainQuoteRow, standIns := [], harness := (true, "a11b3d49075facf1b8da90819756de3acebcc4200d522aa0242a53ec7f6fdbe3"), looks := false }, kinds := [], alts := [], laidByText := true, laidKinds := [.data], laidTests := true, laidLooks := .later }
def FnPlainQuoteCardSaid : Prop := Claim7.holds Tryd.pinned (.plain (OpenSpec.ofChange fnPlainQuoteSpec)) fnPlainQuoteCard

/-- THE TIED CARD OF 'laws.FnProgName'. -/
def fnProgNameCard : Claim7 := { stood := { row := fnProgNameRow, standIns := [], harness := (true, "a11b3d49075facf1b8da90819756de3acebcc4200d522aa0242a53ec7f6fdbe3"), looks := false }, kinds := [], alts := [], laidByText := true, laidKinds := [.data], laidTests := true, laidLooks := .later }
def FnProgNameCardSaid : Prop := Claim7.holds Tryd.pinned (.plain (OpenSpec.ofChange fnProgNameSpec)) fnProgNameCard

/-- THE SECOND FORM's CARD OF 'laws.FnPlainQuote'. -/
def fnPlainQuoteUptoCard : Claim7 := { stood := { row := fnPlainQuoteUptoRow, standIns := [], harness := (true, "a11b3d49075facf1b8da90819756de3acebcc4200d522aa0242a53ec7f6fdbe3"), looks := false }, kinds := [], alts := [], laidByText := true, laidKinds := [.data], laidTests := true, laidLooks := .later }
def FnPlainQuoteUptoCardSaid : Prop := Claim7.holds Tryd.pinned (.plain (OpenSpec.upto fnPlainQuoteSpec)) fnPlainQuoteUptoCard

/-- THE SECOND FORM's CARD OF 'laws.FnProgName'. -/
def fnProgNameUptoCard : Claim7 := { stood := { row := fnProgNameUptoRow, standIns := [], harness := (true, "a11b3d49075facf1b8da90819756de3acebcc4200d522aa0242a53ec7f6fdbe3"), looks := false }, kinds := [], alts := [], laidByText := true, laidKinds := [.data], laidTests := true, laidLooks := .later }
def FnProgNameUptoCardSaid : Prop := Claim7.holds Tryd.pinned (.plain (OpenSpec.upto fnProgNameSpec)) fnProgNameUptoCard
end Rows
end Go.Proofs.YtlbfcahmmjmgjaaDoor
