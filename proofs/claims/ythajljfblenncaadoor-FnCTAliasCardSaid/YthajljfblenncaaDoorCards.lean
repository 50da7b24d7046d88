/-
  DERIVED. GIVEN WITH THE SEED: THE CARDS: each row of YthajljfblenncaaDoorRows.lean that lists a variable, with what it lists TIED to the program's text (the seventh form; the later family's looks); each row that meets fmt, with fmt's text TOLD by the authors' own Lean function (tested against real Go, not proved from fmt's source: count such statements apart). THE CARD IS WHAT COUNTS. Prove the row's statement (the work); the ties are given (YthajljfblenncaaDoorTie.lean); close each card by the builder's one call (the guide's Derived/Test/ToyasCard.lean, 'card_holds'). Laid BY PROGRAM, IN A SANDBOX (cutbox-door.mjs). By AI agents, Wed Nov 11 2026. No macro, syntax, notation, axiom, sorry.
-/
import Derived.Test.YthajljfblenncaaDoorRows
import GoSem.ClaimSeven
namespace Go.Proofs.YthajljfblenncaaDoor
namespace Rows

/-- THE TIED CARD OF 'laws.FnTMOrder'. -/
def fnTMOrderCard : Claim7 := { stood := { row := fnTMOrderRow, standIns := [], harness := (true, "476008045786ca2de67949b490c2eb0905da7b2e37fc4b105dc39bb1164fb797"), looks := true }, kinds := [], alts := [], laidByText := true, laidKinds := [.data, .data, .data], laidTests := true, laidLooks := .later }
def FnTMOrderCardSaid : Prop := Claim7.holds Tryd.pinned (.plain (OpenSpec.ofChange fnTMOrderSpec)) fnTMOrderCard

/-- THE TIED CARD OF 'laws.FnINTexts'. -/
def fnINTextsCard : Claim7 := { stood := { row := fnINTextsRow, standIns := [], harness := (true, "476008045786ca2de67949b490c2eb0905da7b2e37fc4b105dc39bb1164fb797"), looks := true }, kinds := [], alts := [], laidByText := true, laidKinds := [.data, .pinned, .pinned, .pinned, .pinned, .pinned, .pinned], laidTests := true, laidLooks := .later }
def FnINTextsCardSaid : Prop := Claim7.holds Tryd.pinned (.plain (OpenSpec.ofChange fnINTextsSpec)) fnINTextsCard

/-- THE TIED CARD OF 'laws.FnCTAlias'. -/
def fnCTAliasCard : Claim7 := { stood := { row := fnCTAliasRow, standIns := [], harness := (true, "476008045786ca2de67949b490c2eb0905da7b2e37fc4b105dc39bb1164fb797"), looks := true }, kinds := [], alts := [], laidByText := true, laidKinds := [.data, .data, .data], laidTests := true, laidLooks := .later }
def FnCTAliasCardSaid : Prop := Claim7.holds Tryd.pinned (.plain (OpenSpec.ofChange fnCTAliasSpec)) fnCTAliasCard

/-- THE TIED CARD OF 'laws.FnTMNanoText'. -/
def fnTMNanoTextCard : Claim7 := { stood := { row := fnTMNanoTextRow, standIns := [], harness := (true, "476008045786ca2de67949b490c2eb0905da7b2e37fc4b105dc39bb1164fb797"), looks := true }, kinds := [], alts := [], laidByText := true, laidKinds := [.data, .data, .data, .sentinel, .sentinel], laidTests := true, laidLooks := .later }
def FnTMNanoTextCardSaid : Prop := Claim7.holds Tryd.pinned (.plain (OpenSpec.ofChange fnTMNanoTextSpec)) fnTMNanoTextCard

/-- THE TIED CARD OF 'laws.FnCTConflicts'. -/
def fnCTConflictsCard : Claim7 := { stood := { row := fnCTConflictsRow, standIns := [], harness := (true, "476008045786ca2de67949b490c2eb0905da7b2e37fc4b105dc39bb1164fb797"), looks := true }, kinds := [], alts := [], laidByText := true, laidKinds := [.data, .data, .data, .data, .sentinel, .sentinel, .listed, .data, .pinned], laidTests := true, laidLooks := .later }
def FnCTConflictsCardSaid : Prop := Claim7.holds Tryd.pinned (.plain (OpenSpec.ofChange fnCTConflictsSpec)) fnCTConflictsCard

/-- THE TIED CARD OF 'laws.FnCTDeepElems'. -/
def fnCTDeepElemsCard : Claim7 := { stood := { row := fnCTDeepElemsRow, standIns := [], harness := (true, "476008045786ca2de67949b490c2eb0905da7b2e37fc4b105dc39bb1164fb797"), looks := true }, kinds := [], alts := [], laidByText := true, laidKinds := [.data, .data, .data, .data, .sentinel, .sentinel, .listed, .data, .pinned], laidTests := true, laidLooks := .later }
def FnCTDeepElemsCardSaid : Prop := Claim7.holds Tryd.pinned (.plain (OpenSpec.ofChange fnCTDeepElemsSpec)) fnCTDeepElemsCard

/-- THE SECOND FORM's CARD OF 'laws.FnTMOrder'. -/
def fnTMOrderUptoCard : Claim7 := { stood := { row := fnTMOrderUptoRow, standIns := [], harness := (true, "476008045786ca2de67949b490c2eb0905da7b2e37fc4b105dc39bb1164fb797"), looks := true }, kinds := [], alts := [], laidByText := true, laidKinds := [.data, .data, .data], laidTests := true, laidLooks := .later }
def FnTMOrderUptoCardSaid : Prop := Claim7.holds Tryd.pinned (.plain (OpenSpec.upto fnTMOrderSpec)) fnTMOrderUptoCard

/-- THE SECOND FORM's CARD OF 'laws.FnINTexts'. -/
def fnINTextsUptoCard : Claim7 := { stood := { row := fnINTextsUptoRow, standIns := [], harness := (true, "476008045786ca2de67949b490c2eb0905da7b2e37fc4b105dc39bb1164fb797"), looks := true }, kinds := [], alts := [], laidByText := true, laidKinds := [.data, .pinned, .pinned, .pinned, .pinned, .pinned, .pinned], laidTests := true, laidLooks := .later }
def FnINTextsUptoCardSaid : Prop := Claim7.holds Tryd.pinned (.plain (OpenSpec.upto fnINTextsSpec)) fnINTextsUptoCard

/-- THE SECOND FORM's CARD OF 'laws.FnCTAlias'. -/
def fnCTAliasUptoCard : Claim7 := { stood := { row := fnCTAliasUptoRow, standIns := [], harness := (true, "476008045786ca2de67949b490c2eb0905da7b2e37fc4b105dc39bb1164fb797"), looks := true }, kinds := [], alts := [], laidByText := true, laidKinds := [.data, .data, .data], laidTests := true, laidLooks := .later }
def FnCTAliasUptoCardSaid : Prop := Claim7.holds Tryd.pinned (.plain (OpenSpec.upto fnCTAliasSpec)) fnCTAliasUptoCard

/-- THE SECOND FORM's CARD OF 'laws.FnTMNanoText'. -/
def fnTMNanoTextUptoCard : Claim7 := { stood := { row := fnTMNanoTextUptoRow, standIns := [], harness := (true, "476008045786ca2de67949b490c2eb0905da7b2e37fc4b105dc39bb1164fb797"), looks := true }, kinds := [], alts := [], laidByText := true, laidKinds := [.data, .data, .data, .sentinel, .sentinel], laidTests := true, laidLooks := .later }
def FnTMNanoTextUptoCardSaid : Prop := Claim7.holds Tryd.pinned (.plain (OpenSpec.upto fnTMNanoTextSpec)) fnTMNanoTextUptoCard

/-- THE SECOND FORM's CARD OF 'laws.FnCTConflicts'. -/
def fnCTConflictsUptoCard : Claim7 := { stood := { row := fnCTConflictsUptoRow, standIns := [], harness := (true, "476008045786ca2de67949b490c2eb0905da7b2e37fc4b105dc39bb1164fb797"), looks := true }, kinds := [], alts := [], laidByText := true, laidKinds := [.data, .data, .data, .data, .sentinel, .sentinel, .listed, .data, .pinned], laidTests := true, laidLooks := .later }
def FnCTConflictsUptoCardSaid : Prop := Claim7.holds Tryd.pinned (.plain (OpenSpec.upto fnCTConflictsSpec)) fnCTConflictsUptoCard

/-- THE SECOND FORM's CARD OF 'laws.FnCTDeepElems'. -/
def fnCTDeepElemsUptoCard : Claim7 := { stood := { row := fnCTDeepElemsUptoRow, standIns := [], harness := (true, "476008045786ca2de67949b490c2eb0905da7b2e37fc4b105dc39bb1164fb797"), looks := true }, kinds := [], alts := [], laidByText := true, laidKinds := [.data, .data, .data, .data, .sentinel, .sentinel, .listed, .data, .pinned], laidTests := true, laidLooks := .later }
def FnCTDeepElemsUptoCardSaid : Prop := Claim7.holds Tryd.pinned (.plain (OpenSpec.upto fnCTDeepElemsSpec)) fnCTDeepElemsUptoCard
end Rows
end Go.Proofs.YthajljfblenncaaDoor
