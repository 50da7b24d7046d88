/-
  DERIVED. GIVEN WITH THE SEED: THE CARDS: each row of YtgnkinhjfcbdbaaDoorRows.lean that lists a variable, with what it lists TIED to the program's text (the seventh form; the later family's looks); each row that meets fmt, with fmt's text TOLD by the authors' own Lean function (tested against real Go, not proved from fmt's source: count such statements apart). THE CARD IS WHAT COUNTS. Prove the row's statement (the work); the ties are given (YtgnkinhjfcbdbaaDoorTie.lean); close each card by the builder's one call (the guide's Derived/Test/ToyasCard.lean, 'card_holds'). Laid BY PROGRAM, IN A SANDBOX (cutbox-door.mjs). By AI agents, Wed Nov 11 2026. No macro, syntax, notation, axiom, sorry.
-/
import Derived.Test.YtgnkinhjfcbdbaaDoorRows
import GoSem.ClaimSeven
namespace Go.Proofs.YtgnkinhjfcbdbaaDoor
namespace Rows

/-- THE TIED CARD OF 'laws.FnINTexts'. -/
def fnINTextsCard : Claim7 := { stood := { row := fnINTextsRow, standIns := [], harness := (true, "d9abf1dff3c4737ae7298500ab9b58f8cb43eb3deb19c19339cd4775156216c1"), looks := true }, kinds := [], alts := [], laidByText := true, laidKinds := [.data, .pinned, .pinned, .pinned, .pinned, .pinned, .pinned], laidTests := true, laidLooks := .later }
def FnINTextsCardSaid : Prop := Claim7.holds Tryd.pinned (.plain (OpenSpec.ofChange fnINTextsSpec)) fnINTextsCard

/-- THE TIED CARD OF 'laws.FnCTConflicts'. -/
def fnCTConflictsCard : Claim7 := { stood := { row := fnCTConflictsRow, standIns := [], harness := (true, "d9abf1dff3c4737ae7298500ab9b58f8cb43eb3deb19c19339cd4775156216c1"), looks := true }, kinds := [], alts := [], laidByText := true, laidKinds := [.data, .data, .data, .data, .sentinel, .sentinel, .listed, .data, .pinned], laidTests := true, laidLooks := .later }
def FnCTConflictsCardSaid : Prop := Claim7.holds Tryd.pinned (.plain (OpenSpec.ofChange fnCTConflictsSpec)) fnCTConflictsCard

/-- THE SECOND FORM's CARD OF 'laws.FnINTexts'. -/
def fnINTextsUptoCard : Claim7 := { stood := { row := fnINTextsUptoRow, standIns := [], harness := (true, "d9abf1dff3c4737ae7298500ab9b58f8cb43eb3deb19c19339cd4775156216c1"), looks := true }, kinds := [], alts := [], laidByText := true, laidKinds := [.data, .pinned, .pinned, .pinned, .pinned, .pinned, .pinned], laidTests := true, laidLooks := .later }
def FnINTextsUptoCardSaid : Prop := Claim7.holds Tryd.pinned (.plain (OpenSpec.upto fnINTextsSpec)) fnINTextsUptoCard

/-- THE SECOND FORM's CARD OF 'laws.FnCTConflicts'. -/
def fnCTConflictsUptoCard : Claim7 := { stood := { row := fnCTConflictsUptoRow, standIns := [], harness := (true, "d9abf1dff3c4737ae7298500ab9b58f8cb43eb3deb19c19339cd4775156216c1"), looks := true }, kinds := [], alts := [], laidByText := true, laidKinds := [.data, .data, .data, .data, .sentinel, .sentinel, .listed, .data, .pinned], laidTests := true, laidLooks := .later }
def FnCTConflictsUptoCardSaid : Prop := Claim7.holds Tryd.pinned (.plain (OpenSpec.upto fnCTConflictsSpec)) fnCTConflictsUptoCard
end Rows
end Go.Proofs.YtgnkinhjfcbdbaaDoor
