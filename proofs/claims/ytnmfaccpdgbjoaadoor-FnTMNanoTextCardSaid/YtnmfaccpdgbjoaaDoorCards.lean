/-
  DERIVED. GIVEN WITH THE SEED: THE CARDS: each row of YtnmfaccpdgbjoaaDoorRows.lean that lists a variable, with what it lists TIED to the program's text (the seventh form; the later family's looks); each row that meets fmt, with fmt's text TOLD by the authors' own Lean function (tested against real Go, not proved from fmt's source: count such statements apart). THE CARD IS WHAT COUNTS. Prove the row's statement (the work); the ties are given (YtnmfaccpdgbjoaaDoorTie.lean); close each card by the builder's one call (the guide's Derived/Test/ToyasCard.lean, 'card_holds'). Laid BY PROGRAM, IN A SANDBOX (cutbox-door.mjs). By AI agents, Wed Nov 11 2026. No macro, syntax, notation, axiom, sorry.
-/
import Derived.Test.YtnmfaccpdgbjoaaDoorRows
import GoSem.ClaimSeven
namespace Go.Proofs.YtnmfaccpdgbjoaaDoor
namespace Rows

/-- THE TIED CARD OF 'laws.FnTMOrder'. -/
def fnTMOrderCard : Claim7 := { stood := { row := fnTMOrderRow, standIns := [], harness := (true, "b8c655e23523d39b6fe50085753b20ac21ca50afd63f98c12dcbb5203e25c9ea"), looks := true }, kinds := [], alts := [], laidByText := true, laidKinds := [.data, .data, .data], laidTests := true, laidLooks := .later }
def FnTMOrderCardSaid : Prop := Claim7.holds Tryd.pinned (.plain (OpenSpec.ofChange fnTMOrderSpec)) fnTMOrderCard

/-- THE TIED CARD OF 'laws.FnTMNanoText'. -/
def fnTMNanoTextCard : Claim7 := { stood := { row := fnTMNanoTextRow, standIns := [], harness := (true, "b8c655e23523d39b6fe50085753b20ac21ca50afd63f98c12dcbb5203e25c9ea"), looks := true }, kinds := [], alts := [], laidByText := true, laidKinds := [.data, .data, .data, .sentinel, .sentinel], laidTests := true, laidLooks := .later }
def FnTMNanoTextCardSaid : Prop := Claim7.holds Tryd.pinned (.plain (OpenSpec.ofChange fnTMNanoTextSpec)) fnTMNanoTextCard

/-- THE SECOND FORM's CARD OF 'laws.FnTMOrder'. -/
def fnTMOrderUptoCard : Claim7 := { stood := { row := fnTMOrderUptoRow, standIns := [], harness := (true, "b8c655e23523d39b6fe50085753b20ac21ca50afd63f98c12dcbb5203e25c9ea"), looks := true }, kinds := [], alts := [], laidByText := true, laidKinds := [.data, .data, .data], laidTests := true, laidLooks := .later }
def FnTMOrderUptoCardSaid : Prop := Claim7.holds Tryd.pinned (.plain (OpenSpec.upto fnTMOrderSpec)) fnTMOrderUptoCard

/-- THE SECOND FORM's CARD OF 'laws.FnTMNanoText'. -/
def fnTMNanoTextUptoCard : Claim7 := { stood := { row := fnTMNanoTextUptoRow, standIns := [], harness := (true, "b8c655e23523d39b6fe50085753b20ac21ca50afd63f98c12dcbb5203e25c9ea"), looks := true }, kinds := [], alts := [], laidByText := true, laidKinds := [.data, .data, .data, .sentinel, .sentinel], laidTests := true, laidLooks := .later }
def FnTMNanoTextUptoCardSaid : Prop := Claim7.holds Tryd.pinned (.plain (OpenSpec.upto fnTMNanoTextSpec)) fnTMNanoTextUptoCard
end Rows
end Go.Proofs.YtnmfaccpdgbjoaaDoor
