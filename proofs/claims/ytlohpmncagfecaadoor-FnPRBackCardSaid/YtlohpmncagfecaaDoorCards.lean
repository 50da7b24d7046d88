/-
  DERIVED. GIVEN WITH THE SEED: THE CARDS: each row of YtlohpmncagfecaaDoorRows.lean that lists a variable, with what it lists TIED to the program's text (the seventh form; the later family's looks); each row that meets fmt, with fmt's text TOLD by the authors' own Lean function (tested against real Go, not proved from fmt's source: count such statements apart). THE CARD IS WHAT COUNTS. Prove the row's statement (the work); the ties are given (YtlohpmncagfecaaDoorTie.lean); close each card by the builder's one call (the guide's Derived/Test/ToyasCard.lean, 'card_holds'). Laid BY PROGRAM, IN A SANDBOX (cutbox-door.mjs). By AI agents, Wed Nov 11 2026. No macro, syntax, notation, axiom, sorry.
-/
import Derived.Test.YtlohpmncagfecaaDoorRows
import GoSem.ClaimSeven
namespace Go.Proofs.YtlohpmncagfecaaDoor
namespace Rows

/-- THE TIED CARD OF 'laws.FnPRPuts'. -/
def fnPRPutsCard : Claim7 := { stood := { row := fnPRPutsRow, standIns := [], harness := (true, "1d8e9f6cef17e5e59f5a7407096b2e3af4a3e9e368a9a8745f92c1cb1b1dee82"), looks := false }, kinds := [], alts := [], laidByText := true, laidKinds := [.data], laidTests := true, laidLooks := .later }
def FnPRPutsCardSaid : Prop := Claim7.holds Tryd.pinned (.plain (OpenSpec.ofChange fnPRPutsSpec)) fnPRPutsCard

/-- THE TIED CARD OF 'laws.FnPRBack'. -/
def fnPRBackCard : Claim7 := { stood := { row := fnPRBackRow, standIns := [], harness := (true, "1d8e9f6cef17e5e59f5a7407096b2e3af4a3e9e368a9a8745f92c1cb1b1dee82"), looks := false }, kinds := [], alts := [], laidByText := true, laidKinds := [.data], laidTests := true, laidLooks := .later }
def FnPRBackCardSaid : Prop := Claim7.holds Tryd.pinned (.plain (OpenSpec.ofChange fnPRBackSpec)) fnPRBackCard

/-- THE SECOND FORM's CARD OF 'laws.FnPRPuts'. -/
def fnPRPutsUptoCard : Claim7 := { stood := { row := fnPRPutsUptoRow, standIns := [], harness := (true, "1d8e9f6cef17e5e59f5a7407096b2e3af4a3e9e368a9a8745f92c1cb1b1dee82"), looks := false }, kinds := [], alts := [], laidByText := true, laidKinds := [.data], laidTests := true, laidLooks := .later }
def FnPRPutsUptoCardSaid : Prop := Claim7.holds Tryd.pinned (.plain (OpenSpec.upto fnPRPutsSpec)) fnPRPutsUptoCard

/-- THE SECOND FORM's CARD OF 'laws.FnPRBack'. -/
def fnPRBackUptoCard : Claim7 := { stood := { row := fnPRBackUptoRow, standIns := [], harness := (true, "1d8e9f6cef17e5e59f5a7407096b2e3af4a3e9e368a9a8745f92c1cb1b1dee82"), looks := false }, kinds := [], alts := [], laidByText := true, laidKinds := [.data], laidTests := true, laidLooks := .later }
def FnPRBackUptoCardSaid : Prop := Claim7.holds Tryd.pinned (.plain (OpenSpec.upto fnPRBackSpec)) fnPRBackUptoCard
end Rows
end Go.Proofs.YtlohpmncagfecaaDoor
