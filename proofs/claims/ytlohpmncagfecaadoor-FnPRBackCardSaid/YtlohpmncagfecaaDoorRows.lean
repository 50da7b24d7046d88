/-
  NARROWER THAN 'FOR EVERY INPUT', by the rows' own cells (each row's printed sentence says how): FnPRPuts: laid · FnPRBack: laid.
  DERIVED. THE GIVEN ROWS OF THIS SEAT. 2 by the template 'for every input the law returns true; each argument reads behind the call as it read before'; 0 by the template 'total and deterministic' (their statements: YtlohpmncagfecaaDoorTotals.lean).
  GIVEN WITH THE SEED: the statements are not yours to turn. If you find one false, say at which input.
  Laid BY PROGRAM, IN A SANDBOX (cutbox-rows.mjs): the forced cells as the released guide's own fill.sh prints them over the translation 5afa3b28873f7a84… (all of the seat's roots in one cut). By AI agents, Wed Nov 11 2026. No macro, syntax, notation, axiom, sorry.
-/
import Derived.Test.YtlohpmncagfecaaDoorChecked
import GoSem.Claim
import GoSem.ClaimJoined
import GoSem.ClaimMapViews
import Derived.JoinedTies
import Derived.KernelRfl
namespace Go.Proofs.YtlohpmncagfecaaDoor
/- THE CELL 'sum', in the pinned program and in every row, IS THE sha256 OF THE DUMP (.gsa) THAT YtlohpmncagfecaaDoorProg.lean LOADS. Nothing in Lean hashes anything: it is a label: what it is worth is what the hold of that sum in a sandbox is worth. -/
noncomputable def Tryd.pinned : Pinned := { name := "ytlohpmncagfecaadoor", sum := "5afa3b28873f7a84f83c0b29c3f93f981856fb9a85be32ed4778209331724252", checked := Tryd.checked }
namespace Rows
def none {H : Type} : Left H := { results := [], args := [] }

/- WHAT THE LISTED PACKAGE-LEVEL VARIABLES READ AS WHEN THE CALL BEGINS. Each datum BY PROGRAM (the guide's laid-datum.mjs) off the statement by which the dump's own 'gosem.cut.vars' lays the variable. In a bare row this is a premise. The card (YtlohpmncagfecaaDoorCards.lean) ties it to the program's text. -/
def laid_given_example_pub_clapboard_spec_prWidths {H : Type} : DataW H := .agg [.lit (.int .i64 0), .lit (.int .i64 1), .lit (.int .i64 1), .lit (.int .i64 1), .lit (.int .i64 2), .lit (.int .i64 4), .lit (.int .i64 8), .lit (.int .i64 1), .lit (.int .i64 2), .lit (.int .i64 4), .lit (.int .i64 8), .lit (.int .i64 4), .lit (.int .i64 8), .lit (.int .i64 16), .lit (.int .i64 16), .lit (.int .i64 0), .lit (.int .i64 0), .lit (.int .i64 0), .lit (.int .i64 0), .lit (.int .i64 0)]

/-- 'laws.FnPRPuts': WHATEVER THE INPUT: true; the input reads as it did. -/
def fnPRPutsSpec : ChangeSpec := { name := "fnPRPuts", vars := ["given.example/pub-clapboard/spec.prWidths"], fn := fun _ => fun
  | [d, g1] => { results := [.lit (.bool true)], args := [d], vars := [g1] }
  | _ => none }
def fnPRPutsRow : OpenClaim := { program := "ytlohpmncagfecaadoor", sum := "5afa3b28873f7a84f83c0b29c3f93f981856fb9a85be32ed4778209331724252", func := "given.example/pub-clapboard/laws.FnPRPuts", spec := "fnPRPuts", inPlace := ["math.Float32frombits", "math.Float32bits", "math.Float64frombits", "math.Float64bits"], unfollowed := true, recurses := true, named := ["given.example/pub-clapboard/spec.prWidths", "encoding/binary.LittleEndian"], apart := false, laid := [("given.example/pub-clapboard/spec.prWidths", laid_given_example_pub_clapboard_spec_prWidths)] }
def FnPRPutsSaid : Prop := fnPRPutsRow.holds Tryd.pinned (OpenSpec.ofChange fnPRPutsSpec)

/-- ITS FALSE NEIGHBOUR: 'it returns false'. Refute it at one input. -/
def fnPRPutsWrong : ChangeSpec := { name := "fnPRPuts", vars := ["given.example/pub-clapboard/spec.prWidths"], fn := fun _ => fun
  | [d, g1] => { results := [.lit (.bool false)], args := [d], vars := [g1] }
  | _ => none }
def FnPRPutsWrongFalsely : Prop := fnPRPutsRow.holds Tryd.pinned (OpenSpec.ofChange fnPRPutsWrong)

/-- 'laws.FnPRBack': WHATEVER THE INPUT: true; the input reads as it did. -/
def fnPRBackSpec : ChangeSpec := { name := "fnPRBack", vars := ["given.example/pub-clapboard/spec.prWidths"], fn := fun _ => fun
  | [d, g1] => { results := [.lit (.bool true)], args := [d], vars := [g1] }
  | _ => none }
def fnPRBackRow : OpenClaim := { program := "ytlohpmncagfecaadoor", sum := "5afa3b28873f7a84f83c0b29c3f93f981856fb9a85be32ed4778209331724252", func := "given.example/pub-clapboard/laws.FnPRBack", spec := "fnPRBack", inPlace := ["math.Float32frombits", "math.Float32bits", "math.Float64frombits", "math.Float64bits"], unfollowed := true, recurses := true, named := ["given.example/pub-clapboard/spec.prWidths", "encoding/binary.LittleEndian"], apart := false, laid := [("given.example/pub-clapboard/spec.prWidths", laid_given_example_pub_clapboard_spec_prWidths)] }
def FnPRBackSaid : Prop := fnPRBackRow.holds Tryd.pinned (OpenSpec.ofChange fnPRBackSpec)

/-- ITS FALSE NEIGHBOUR: 'it returns false'. Refute it at one input. -/
def fnPRBackWrong : ChangeSpec := { name := "fnPRBack", vars := ["given.example/pub-clapboard/spec.prWidths"], fn := fun _ => fun
  | [d, g1] => { results := [.lit (.bool false)], args := [d], vars := [g1] }
  | _ => none }
def FnPRBackWrongFalsely : Prop := fnPRBackRow.holds Tryd.pinned (OpenSpec.ofChange fnPRBackWrong)

/- THE SECOND FORM. 'bulk': how many values and letters a reading holds, each counted each time it is reached (what is shared counts as often as it is met; a slice's spare places count too). A statement '..UptoSaid' is the law's where the arguments, and the package variables that the reading takes, are together of bulk at most 1048576: NARROWER than '..Said'. Prove '..Said' where nothing that the law and all that it calls make is longer than what came in: it says more and counts as full. Else prove '..UptoSaid'. A law counts once. -/
mutual
def uptoBulk {H : Type} : DataW H → Nat
  | .lit (.string bytes) => bytes.length + 1
  | .lit _ => 1
  | .nil => 1
  | .ptr d => uptoBulk d + 1
  | .slice elems spare => uptoBulkAll elems + uptoBulkAll spare + 1
  | .agg parts => uptoBulkAll parts + 1
  | .iface _ d => uptoBulk d + 1
  | .map entries => uptoBulkEntries entries + 1
  | .held _ => 1
def uptoBulkAll {H : Type} : List (DataW H) → Nat
  | [] => 0
  | d :: r => uptoBulk d + uptoBulkAll r
def uptoBulkEntries {H : Type} : List (Lit × DataW H) → Nat
  | [] => 0
  | x :: r => uptoBulkEntry x + uptoBulkEntries r
def uptoBulkEntry {H : Type} : Lit × DataW H → Nat
  | (.string bytes, d) => bytes.length + uptoBulk d + 1
  | (_, d) => uptoBulk d + 1
 end
def uptoSmall : (H : Type) → List (DataW H) → Bool := fun _ ds => decide (uptoBulkAll ds ≤ 1048576)
def OpenSpec.upto (s : _root_.Go.ChangeSpec) : _root_.Go.OpenSpec := { _root_.Go.OpenSpec.ofChange s with cond := some uptoSmall }

/-- 'laws.FnPRPuts', WHERE WHAT IT READS IS OF BULK AT MOST 1048576: true; the input reads as it did. -/
def fnPRPutsUptoRow : OpenClaim := { program := "ytlohpmncagfecaadoor", sum := "5afa3b28873f7a84f83c0b29c3f93f981856fb9a85be32ed4778209331724252", func := "given.example/pub-clapboard/laws.FnPRPuts", spec := "fnPRPuts", inPlace := ["math.Float32frombits", "math.Float32bits", "math.Float64frombits", "math.Float64bits"], unfollowed := true, recurses := true, named := ["given.example/pub-clapboard/spec.prWidths", "encoding/binary.LittleEndian"], apart := false, laid := [("given.example/pub-clapboard/spec.prWidths", laid_given_example_pub_clapboard_spec_prWidths)], narrowed := true }
def FnPRPutsUptoSaid : Prop := fnPRPutsUptoRow.holds Tryd.pinned (OpenSpec.upto fnPRPutsSpec)

/-- 'laws.FnPRBack', WHERE WHAT IT READS IS OF BULK AT MOST 1048576: true; the input reads as it did. -/
def fnPRBackUptoRow : OpenClaim := { program := "ytlohpmncagfecaadoor", sum := "5afa3b28873f7a84f83c0b29c3f93f981856fb9a85be32ed4778209331724252", func := "given.example/pub-clapboard/laws.FnPRBack", spec := "fnPRBack", inPlace := ["math.Float32frombits", "math.Float32bits", "math.Float64frombits", "math.Float64bits"], unfollowed := true, recurses := true, named := ["given.example/pub-clapboard/spec.prWidths", "encoding/binary.LittleEndian"], apart := false, laid := [("given.example/pub-clapboard/spec.prWidths", laid_given_example_pub_clapboard_spec_prWidths)], narrowed := true }
def FnPRBackUptoSaid : Prop := fnPRBackUptoRow.holds Tryd.pinned (OpenSpec.upto fnPRBackSpec)

end Rows
end Go.Proofs.YtlohpmncagfecaaDoor
