/-
  No cell of these rows narrows 'for every input' (looked for: loops, veiled, ifaces, maps, wideKeys, modest, calm, conditions, laid).
  DERIVED. THE GIVEN ROWS OF THIS SEAT. 6 by the template 'for every input the law returns true; each argument reads behind the call as it read before'; 0 by the template 'total and deterministic' (their statements: YtbfhkimjlnmhgaaTotals.lean).
  GIVEN WITH THE SEED: the statements are not yours to turn. If you find one false, say at which input.
  Laid BY PROGRAM, IN A SANDBOX (cutbox-rows.mjs): the forced cells as the released guide's own fill.sh prints them over the translation 534859b2f9a20915… (all of the seat's roots in one cut). By AI agents, Wed Nov 11 2026. No macro, syntax, notation, axiom, sorry.
-/
import Derived.Test.YtbfhkimjlnmhgaaChecked
import GoSem.Claim
import GoSem.ClaimJoined
import GoSem.ClaimMapViews
import Derived.JoinedTies
import Derived.KernelRfl
namespace Go.Proofs.Ytbfhkimjlnmhgaa
/- THE CELL 'sum', in the pinned program and in every row, IS THE sha256 OF THE DUMP (.gsa) THAT YtbfhkimjlnmhgaaProg.lean LOADS. Nothing in Lean hashes anything: it is a label: what it is worth is what the hold of that sum in a sandbox is worth. -/
noncomputable def Try.pinned : Pinned := { name := "ytbfhkimjlnmhgaa", sum := "534859b2f9a20915f6c4a8dabf06a8cd14220165dcd48fecd1b8aff7a6b02024", checked := Try.checked }
namespace Rows
def none {H : Type} : Left H := { results := [], args := [] }

/-- 'laws.FnSCCompressible': WHATEVER THE INPUT: true; the input reads as it did. -/
def fnSCCompressibleSpec : ChangeSpec := { name := "fnSCCompressible", fn := fun _ => fun
  | [d] => { results := [.lit (.bool true)], args := [d] }
  | _ => none }
def fnSCCompressibleRow : OpenClaim := { program := "ytbfhkimjlnmhgaa", sum := "534859b2f9a20915f6c4a8dabf06a8cd14220165dcd48fecd1b8aff7a6b02024", func := "given.example/pub-clapboard/laws.FnSCCompressible", spec := "fnSCCompressible", apart := false }
def FnSCCompressibleSaid : Prop := fnSCCompressibleRow.holds Try.pinned (OpenSpec.ofChange fnSCCompressibleSpec)

/-- ITS FALSE NEIGHBOUR: 'it returns false'. Refute it at one input. -/
def fnSCCompressibleWrong : ChangeSpec := { name := "fnSCCompressible", fn := fun _ => fun
  | [d] => { results := [.lit (.bool false)], args := [d] }
  | _ => none }
def FnSCCompressibleWrongFalsely : Prop := fnSCCompressibleRow.holds Try.pinned (OpenSpec.ofChange fnSCCompressibleWrong)

/-- 'laws.FnDTOrder': WHATEVER THE INPUT: true; the input reads as it did. -/
def fnDTOrderSpec : ChangeSpec := { name := "fnDTOrder", fn := fun _ => fun
  | [d1, d2] => { results := [.lit (.bool true)], args := [d1, d2] }
  | _ => none }
def fnDTOrderRow : OpenClaim := { program := "ytbfhkimjlnmhgaa", sum := "534859b2f9a20915f6c4a8dabf06a8cd14220165dcd48fecd1b8aff7a6b02024", func := "given.example/pub-clapboard/laws.FnDTOrder", spec := "fnDTOrder", apart := false }
def FnDTOrderSaid : Prop := fnDTOrderRow.holds Try.pinned (OpenSpec.ofChange fnDTOrderSpec)

/-- ITS FALSE NEIGHBOUR: 'it returns false'. Refute it at one input. -/
def fnDTOrderWrong : ChangeSpec := { name := "fnDTOrder", fn := fun _ => fun
  | [d1, d2] => { results := [.lit (.bool false)], args := [d1, d2] }
  | _ => none }
def FnDTOrderWrongFalsely : Prop := fnDTOrderRow.holds Try.pinned (OpenSpec.ofChange fnDTOrderWrong)

/-- 'laws.FnBFOrder': WHATEVER THE INPUT: true; the input reads as it did. -/
def fnBFOrderSpec : ChangeSpec := { name := "fnBFOrder", fn := fun _ => fun
  | [d1, d2] => { results := [.lit (.bool true)], args := [d1, d2] }
  | _ => none }
def fnBFOrderRow : OpenClaim := { program := "ytbfhkimjlnmhgaa", sum := "534859b2f9a20915f6c4a8dabf06a8cd14220165dcd48fecd1b8aff7a6b02024", func := "given.example/pub-clapboard/laws.FnBFOrder", spec := "fnBFOrder", inPlace := ["math.Float32frombits", "math.Float32bits"], apart := false }
def FnBFOrderSaid : Prop := fnBFOrderRow.holds Try.pinned (OpenSpec.ofChange fnBFOrderSpec)

/-- ITS FALSE NEIGHBOUR: 'it returns false'. Refute it at one input. -/
def fnBFOrderWrong : ChangeSpec := { name := "fnBFOrder", fn := fun _ => fun
  | [d1, d2] => { results := [.lit (.bool false)], args := [d1, d2] }
  | _ => none }
def FnBFOrderWrongFalsely : Prop := fnBFOrderRow.holds Try.pinned (OpenSpec.ofChange fnBFOrderWrong)

/-- 'laws.FnBFRounds': WHATEVER THE INPUT: true; the input reads as it did. -/
def fnBFRoundsSpec : ChangeSpec := { name := "fnBFRounds", fn := fun _ => fun
  | [d] => { results := [.lit (.bool true)], args := [d] }
  | _ => none }
def fnBFRoundsRow : OpenClaim := { program := "ytbfhkimjlnmhgaa", sum := "534859b2f9a20915f6c4a8dabf06a8cd14220165dcd48fecd1b8aff7a6b02024", func := "given.example/pub-clapboard/laws.FnBFRounds", spec := "fnBFRounds", inPlace := ["math.Float32frombits", "math.Float32bits"], apart := false }
def FnBFRoundsSaid : Prop := fnBFRoundsRow.holds Try.pinned (OpenSpec.ofChange fnBFRoundsSpec)

/-- ITS FALSE NEIGHBOUR: 'it returns false'. Refute it at one input. -/
def fnBFRoundsWrong : ChangeSpec := { name := "fnBFRounds", fn := fun _ => fun
  | [d] => { results := [.lit (.bool false)], args := [d] }
  | _ => none }
def FnBFRoundsWrongFalsely : Prop := fnBFRoundsRow.holds Try.pinned (OpenSpec.ofChange fnBFRoundsWrong)

/-- 'laws.FnENCodes': WHATEVER THE INPUT: true; the input reads as it did. -/
def fnENCodesSpec : ChangeSpec := { name := "fnENCodes", fn := fun _ => fun
  | [d1, d2] => { results := [.lit (.bool true)], args := [d1, d2] }
  | _ => none }
def fnENCodesRow : OpenClaim := { program := "ytbfhkimjlnmhgaa", sum := "534859b2f9a20915f6c4a8dabf06a8cd14220165dcd48fecd1b8aff7a6b02024", func := "given.example/pub-clapboard/laws.FnENCodes", spec := "fnENCodes", unfollowed := true, recurses := true, apart := false }
def FnENCodesSaid : Prop := fnENCodesRow.holds Try.pinned (OpenSpec.ofChange fnENCodesSpec)

/-- ITS FALSE NEIGHBOUR: 'it returns false'. Refute it at one input. -/
def fnENCodesWrong : ChangeSpec := { name := "fnENCodes", fn := fun _ => fun
  | [d1, d2] => { results := [.lit (.bool false)], args := [d1, d2] }
  | _ => none }
def FnENCodesWrongFalsely : Prop := fnENCodesRow.holds Try.pinned (OpenSpec.ofChange fnENCodesWrong)

/-- 'laws.FnTMTicks': WHATEVER THE INPUT: true; the input reads as it did. -/
def fnTMTicksSpec : ChangeSpec := { name := "fnTMTicks", fn := fun _ => fun
  | [d1, d2, d3] => { results := [.lit (.bool true)], args := [d1, d2, d3] }
  | _ => none }
def fnTMTicksRow : OpenClaim := { program := "ytbfhkimjlnmhgaa", sum := "534859b2f9a20915f6c4a8dabf06a8cd14220165dcd48fecd1b8aff7a6b02024", func := "given.example/pub-clapboard/laws.FnTMTicks", spec := "fnTMTicks", apart := false }
def FnTMTicksSaid : Prop := fnTMTicksRow.holds Try.pinned (OpenSpec.ofChange fnTMTicksSpec)

/-- ITS FALSE NEIGHBOUR: 'it returns false'. Refute it at one input. -/
def fnTMTicksWrong : ChangeSpec := { name := "fnTMTicks", fn := fun _ => fun
  | [d1, d2, d3] => { results := [.lit (.bool false)], args := [d1, d2, d3] }
  | _ => none }
def FnTMTicksWrongFalsely : Prop := fnTMTicksRow.holds Try.pinned (OpenSpec.ofChange fnTMTicksWrong)

/- THE SECOND FORM. 'bulk': how many values and letters a reading holds, each counted each time it is reached (what is shared counts as often as it is met; a slice's spare places count too). A statement '..UptoSaid' is the law's where the arguments, and the package variables that the reading takes, are together of bulk at most 1048576: NARROWER than '..Said'. Prove '..Said' where nothing that the law and all that it calls make is longer than what came in: it says more and counts as full. Else prove '..UptoSaid'. A law counts once. -/
mutual
def uptoBulk {H : Type} : DataW H → Nat
  | .lit (.string bytes) => bytes.length + 1
  | .lit _ => 1
  | .nil => 1
  | .ptr d => uptoBulk d + 1
  | .slice elems spare => uptoBulkAll elems + uptoBulkAll spare + 1
  | .agg parts => uptoBulkAll parts + 1
  | .iface _ d => uptoBulk d + 1
  | .map entries => uptoBulkEntries entries + 1
  | .held _ => 1
def uptoBulkAll {H : Type} : List (DataW H) → Nat
  | [] => 0
  | d :: r => uptoBulk d + uptoBulkAll r
def uptoBulkEntries {H : Type} : List (Lit × DataW H) → Nat
  | [] => 0
  | x :: r => uptoBulkEntry x + uptoBulkEntries r
def uptoBulkEntry {H : Type} : Lit × DataW H → Nat
  | (.string bytes, d) => bytes.length + uptoBulk d + 1
  | (_, d) => uptoBulk d + 1
 end
def uptoSmall : (H : Type) → List (DataW H) → Bool := fun _ ds => decide (uptoBulkAll ds ≤ 1048576)
def OpenSpec.upto (s : _root_.Go.ChangeSpec) : _root_.Go.OpenSpec := { _root_.Go.OpenSpec.ofChange s with cond := some uptoSmall }

/-- 'laws.FnSCCompressible', WHERE WHAT IT READS IS OF BULK AT MOST 1048576: true; the input reads as it did. -/
def fnSCCompressibleUptoRow : OpenClaim := { program := "ytbfhkimjlnmhgaa", sum := "534859b2f9a20915f6c4a8dabf06a8cd14220165dcd48fecd1b8aff7a6b02024", func := "given.example/pub-clapboard/laws.FnSCCompressible", spec := "fnSCCompressible", apart := false, narrowed := true }
def FnSCCompressibleUptoSaid : Prop := fnSCCompressibleUptoRow.holds Try.pinned (OpenSpec.upto fnSCCompressibleSpec)

/-- 'laws.FnDTOrder', WHERE WHAT IT READS IS OF BULK AT MOST 1048576: true; the input reads as it did. -/
def fnDTOrderUptoRow : OpenClaim := { program := "ytbfhkimjlnmhgaa", sum := "534859b2f9a20915f6c4a8dabf06a8cd14220165dcd48fecd1b8aff7a6b02024", func := "given.example/pub-clapboard/laws.FnDTOrder", spec := "fnDTOrder", apart := false, narrowed := true }
def FnDTOrderUptoSaid : Prop := fnDTOrderUptoRow.holds Try.pinned (OpenSpec.upto fnDTOrderSpec)

/-- 'laws.FnBFOrder', WHERE WHAT IT READS IS OF BULK AT MOST 1048576: true; the input reads as it did. -/
def fnBFOrderUptoRow : OpenClaim := { program := "ytbfhkimjlnmhgaa", sum := "534859b2f9a20915f6c4a8dabf06a8cd14220165dcd48fecd1b8aff7a6b02024", func := "given.example/pub-clapboard/laws.FnBFOrder", spec := "fnBFOrder", inPlace := ["math.Float32frombits", "math.Float32bits"], apart := false, narrowed := true }
def FnBFOrderUptoSaid : Prop := fnBFOrderUptoRow.holds Try.pinned (OpenSpec.upto fnBFOrderSpec)

/-- 'laws.FnBFRounds', WHERE WHAT IT READS IS OF BULK AT MOST 1048576: true; the input reads as it did. -/
def fnBFRoundsUptoRow : OpenClaim := { program := "ytbfhkimjlnmhgaa", sum := "534859b2f9a20915f6c4a8dabf06a8cd14220165dcd48fecd1b8aff7a6b02024", func := "given.example/pub-clapboard/laws.FnBFRounds", spec := "fnBFRounds", inPlace := ["math.Float32frombits", "math.Float32bits"], apart := false, narrowed := true }
def FnBFRoundsUptoSaid : Prop := fnBFRoundsUptoRow.holds Try.pinned (OpenSpec.upto fnBFRoundsSpec)

/-- 'laws.FnENCodes', WHERE WHAT IT READS IS OF BULK AT MOST 1048576: true; the input reads as it did. -/
def fnENCodesUptoRow : OpenClaim := { program := "ytbfhkimjlnmhgaa", sum := "534859b2f9a20915f6c4a8dabf06a8cd14220165dcd48fecd1b8aff7a6b02024", func := "given.example/pub-clapboard/laws.FnENCodes", spec := "fnENCodes", unfollowed := true, recurses := true, apart := false, narrowed := true }
def FnENCodesUptoSaid : Prop := fnENCodesUptoRow.holds Try.pinned (OpenSpec.upto fnENCodesSpec)

/-- 'laws.FnTMTicks', WHERE WHAT IT READS IS OF BULK AT MOST 1048576: true; the input reads as it did. -/
def fnTMTicksUptoRow : OpenClaim := { program := "ytbfhkimjlnmhgaa", sum := "534859b2f9a20915f6c4a8dabf06a8cd14220165dcd48fecd1b8aff7a6b02024", func := "given.example/pub-clapboard/laws.FnTMTicks", spec := "fnTMTicks", apart := false, narrowed := true }
def FnTMTicksUptoSaid : Prop := fnTMTicksUptoRow.holds Try.pinned (OpenSpec.upto fnTMTicksSpec)

end Rows
end Go.Proofs.Ytbfhkimjlnmhgaa
