/-
  No cell of these rows narrows 'for every input' (looked for: loops, veiled, ifaces, maps, wideKeys, modest, calm, conditions, laid).
  DERIVED. THE GIVEN ROWS OF THIS SEAT. 7 by the template 'for every input the law returns true; each argument reads behind the call as it read before'; 0 by the template 'total and deterministic' (their statements: YtkidcgaogjlpaaaGreatTotals.lean).
  GIVEN WITH THE SEED: the statements are not yours to turn. If you find one false, say at which input.
  Laid BY PROGRAM, IN A SANDBOX (cutbox-rows.mjs): the forced cells as the released guide's own fill.sh prints them over the translation 280025f3aa52108c… (all of the seat's roots in one cut). By AI agents, Wed Nov 11 2026. No macro, syntax, notation, axiom, sorry.
-/
import Derived.Test.YtkidcgaogjlpaaaGreatChecked
import GoSem.Claim
import GoSem.ClaimJoined
import GoSem.ClaimMapViews
import Derived.JoinedTies
import Derived.KernelRfl
namespace Go.Proofs.YtkidcgaogjlpaaaGreat
/- THE CELL 'sum', in the pinned program and in every row, IS THE sha256 OF THE DUMP (.gsa) THAT YtkidcgaogjlpaaaGreatProg.lean LOADS. Nothing in Lean hashes anything: it is a label: what it is worth is what the hold of that sum in a sandbox is worth. -/
noncomputable def Tryz.pinned : Pinned := { name := "ytkidcgaogjlpaaagreat", sum := "280025f3aa52108c4b299bd3fd24a3e9b66c0c99caa8f211f788cd8ff040a055", checked := Tryz.checked }
namespace Rows
def none {H : Type} : Left H := { results := [], args := [] }

/-- 'laws.FnSTTypes': WHATEVER THE INPUT: true; the input reads as it did. -/
def fnSTTypesSpec : ChangeSpec := { name := "fnSTTypes", fn := fun _ => fun
  | [d1, d2] => { results := [.lit (.bool true)], args := [d1, d2] }
  | _ => none }
def fnSTTypesRow : OpenClaim := { program := "ytkidcgaogjlpaaagreat", sum := "280025f3aa52108c4b299bd3fd24a3e9b66c0c99caa8f211f788cd8ff040a055", func := "given.example/pub-clapboard/laws.FnSTTypes", spec := "fnSTTypes", inPlace := ["internal/abi.NoEscape", "internal/bytealg.MakeNoZero"], unfollowed := true, recurses := true, apart := false }
def FnSTTypesSaid : Prop := fnSTTypesRow.holds Tryz.pinned (OpenSpec.ofChange fnSTTypesSpec)

/-- ITS FALSE NEIGHBOUR: 'it returns false'. Refute it at one input. -/
def fnSTTypesWrong : ChangeSpec := { name := "fnSTTypes", fn := fun _ => fun
  | [d1, d2] => { results := [.lit (.bool false)], args := [d1, d2] }
  | _ => none }
def FnSTTypesWrongFalsely : Prop := fnSTTypesRow.holds Tryz.pinned (OpenSpec.ofChange fnSTTypesWrong)

/-- 'laws.FnSTEncodes': WHATEVER THE INPUT: true; the input reads as it did. -/
def fnSTEncodesSpec : ChangeSpec := { name := "fnSTEncodes", fn := fun _ => fun
  | [d1, d2, d3] => { results := [.lit (.bool true)], args := [d1, d2, d3] }
  | _ => none }
def fnSTEncodesRow : OpenClaim := { program := "ytkidcgaogjlpaaagreat", sum := "280025f3aa52108c4b299bd3fd24a3e9b66c0c99caa8f211f788cd8ff040a055", func := "given.example/pub-clapboard/laws.FnSTEncodes", spec := "fnSTEncodes", unfollowed := true, recurses := true, apart := false }
def FnSTEncodesSaid : Prop := fnSTEncodesRow.holds Tryz.pinned (OpenSpec.ofChange fnSTEncodesSpec)

/-- ITS FALSE NEIGHBOUR: 'it returns false'. Refute it at one input. -/
def fnSTEncodesWrong : ChangeSpec := { name := "fnSTEncodes", fn := fun _ => fun
  | [d1, d2, d3] => { results := [.lit (.bool false)], args := [d1, d2, d3] }
  | _ => none }
def FnSTEncodesWrongFalsely : Prop := fnSTEncodesRow.holds Tryz.pinned (OpenSpec.ofChange fnSTEncodesWrong)

/-- 'laws.FnSTCut': WHATEVER THE INPUT: true; the input reads as it did. -/
def fnSTCutSpec : ChangeSpec := { name := "fnSTCut", fn := fun _ => fun
  | [d1, d2, d3, d4] => { results := [.lit (.bool true)], args := [d1, d2, d3, d4] }
  | _ => none }
def fnSTCutRow : OpenClaim := { program := "ytkidcgaogjlpaaagreat", sum := "280025f3aa52108c4b299bd3fd24a3e9b66c0c99caa8f211f788cd8ff040a055", func := "given.example/pub-clapboard/laws.FnSTCut", spec := "fnSTCut", unfollowed := true, recurses := true, apart := false }
def FnSTCutSaid : Prop := fnSTCutRow.holds Tryz.pinned (OpenSpec.ofChange fnSTCutSpec)

/-- ITS FALSE NEIGHBOUR: 'it returns false'. Refute it at one input. -/
def fnSTCutWrong : ChangeSpec := { name := "fnSTCut", fn := fun _ => fun
  | [d1, d2, d3, d4] => { results := [.lit (.bool false)], args := [d1, d2, d3, d4] }
  | _ => none }
def FnSTCutWrongFalsely : Prop := fnSTCutRow.holds Tryz.pinned (OpenSpec.ofChange fnSTCutWrong)

/-- 'laws.FnSTDecodes': WHATEVER THE INPUT: true; the input reads as it did. -/
def fnSTDecodesSpec : ChangeSpec := { name := "fnSTDecodes", fn := fun _ => fun
  | [d1, d2, d3, d4] => { results := [.lit (.bool true)], args := [d1, d2, d3, d4] }
  | _ => none }
def fnSTDecodesRow : OpenClaim := { program := "ytkidcgaogjlpaaagreat", sum := "280025f3aa52108c4b299bd3fd24a3e9b66c0c99caa8f211f788cd8ff040a055", func := "given.example/pub-clapboard/laws.FnSTDecodes", spec := "fnSTDecodes", unfollowed := true, recurses := true, apart := false }
def FnSTDecodesSaid : Prop := fnSTDecodesRow.holds Tryz.pinned (OpenSpec.ofChange fnSTDecodesSpec)

/-- ITS FALSE NEIGHBOUR: 'it returns false'. Refute it at one input. -/
def fnSTDecodesWrong : ChangeSpec := { name := "fnSTDecodes", fn := fun _ => fun
  | [d1, d2, d3, d4] => { results := [.lit (.bool false)], args := [d1, d2, d3, d4] }
  | _ => none }
def FnSTDecodesWrongFalsely : Prop := fnSTDecodesRow.holds Tryz.pinned (OpenSpec.ofChange fnSTDecodesWrong)

/-- 'laws.FnSTDeepFew': WHATEVER THE INPUT: true; the input reads as it did. -/
def fnSTDeepFewSpec : ChangeSpec := { name := "fnSTDeepFew", fn := fun _ => fun
  | [d1, d2, d3, d4] => { results := [.lit (.bool true)], args := [d1, d2, d3, d4] }
  | _ => none }
def fnSTDeepFewRow : OpenClaim := { program := "ytkidcgaogjlpaaagreat", sum := "280025f3aa52108c4b299bd3fd24a3e9b66c0c99caa8f211f788cd8ff040a055", func := "given.example/pub-clapboard/laws.FnSTDeepFew", spec := "fnSTDeepFew", unfollowed := true, recurses := true, apart := false }
def FnSTDeepFewSaid : Prop := fnSTDeepFewRow.holds Tryz.pinned (OpenSpec.ofChange fnSTDeepFewSpec)

/-- ITS FALSE NEIGHBOUR: 'it returns false'. Refute it at one input. -/
def fnSTDeepFewWrong : ChangeSpec := { name := "fnSTDeepFew", fn := fun _ => fun
  | [d1, d2, d3, d4] => { results := [.lit (.bool false)], args := [d1, d2, d3, d4] }
  | _ => none }
def FnSTDeepFewWrongFalsely : Prop := fnSTDeepFewRow.holds Tryz.pinned (OpenSpec.ofChange fnSTDeepFewWrong)

/-- 'laws.FnSTDeepParts': WHATEVER THE INPUT: true; the input reads as it did. -/
def fnSTDeepPartsSpec : ChangeSpec := { name := "fnSTDeepParts", fn := fun _ => fun
  | [d1, d2, d3, d4] => { results := [.lit (.bool true)], args := [d1, d2, d3, d4] }
  | _ => none }
def fnSTDeepPartsRow : OpenClaim := { program := "ytkidcgaogjlpaaagreat", sum := "280025f3aa52108c4b299bd3fd24a3e9b66c0c99caa8f211f788cd8ff040a055", func := "given.example/pub-clapboard/laws.FnSTDeepParts", spec := "fnSTDeepParts", unfollowed := true, recurses := true, apart := false }
def FnSTDeepPartsSaid : Prop := fnSTDeepPartsRow.holds Tryz.pinned (OpenSpec.ofChange fnSTDeepPartsSpec)

/-- ITS FALSE NEIGHBOUR: 'it returns false'. Refute it at one input. -/
def fnSTDeepPartsWrong : ChangeSpec := { name := "fnSTDeepParts", fn := fun _ => fun
  | [d1, d2, d3, d4] => { results := [.lit (.bool false)], args := [d1, d2, d3, d4] }
  | _ => none }
def FnSTDeepPartsWrongFalsely : Prop := fnSTDeepPartsRow.holds Tryz.pinned (OpenSpec.ofChange fnSTDeepPartsWrong)

/-- 'laws.FnSTRuns': WHATEVER THE INPUT: true; the input reads as it did. -/
def fnSTRunsSpec : ChangeSpec := { name := "fnSTRuns", fn := fun _ => fun
  | [d1, d2, d3] => { results := [.lit (.bool true)], args := [d1, d2, d3] }
  | _ => none }
def fnSTRunsRow : OpenClaim := { program := "ytkidcgaogjlpaaagreat", sum := "280025f3aa52108c4b299bd3fd24a3e9b66c0c99caa8f211f788cd8ff040a055", func := "given.example/pub-clapboard/laws.FnSTRuns", spec := "fnSTRuns", unfollowed := true, recurses := true, apart := false }
def FnSTRunsSaid : Prop := fnSTRunsRow.holds Tryz.pinned (OpenSpec.ofChange fnSTRunsSpec)

/-- ITS FALSE NEIGHBOUR: 'it returns false'. Refute it at one input. -/
def fnSTRunsWrong : ChangeSpec := { name := "fnSTRuns", fn := fun _ => fun
  | [d1, d2, d3] => { results := [.lit (.bool false)], args := [d1, d2, d3] }
  | _ => none }
def FnSTRunsWrongFalsely : Prop := fnSTRunsRow.holds Tryz.pinned (OpenSpec.ofChange fnSTRunsWrong)

/- THE SECOND FORM. 'bulk': how many values and letters a reading holds, each counted each time it is reached (what is shared counts as often as it is met; a slice's spare places count too). A statement '..UptoSaid' is the law's where the arguments, and the package variables that the reading takes, are together of bulk at most 1048576: NARROWER than '..Said'. Prove '..Said' where nothing that the law and all that it calls make is longer than what came in: it says more and counts as full. Else prove '..UptoSaid'. A law counts once. -/
mutual
def uptoBulk {H : Type} : DataW H → Nat
  | .lit (.string bytes) => bytes.length + 1
  | .lit _ => 1
  | .nil => 1
  | .ptr d => uptoBulk d + 1
  | .slice elems spare => uptoBulkAll elems + uptoBulkAll spare + 1
  | .agg parts => uptoBulkAll parts + 1
  | .iface _ d => uptoBulk d + 1
  | .map entries => uptoBulkEntries entries + 1
  | .held _ => 1
def uptoBulkAll {H : Type} : List (DataW H) → Nat
  | [] => 0
  | d :: r => uptoBulk d + uptoBulkAll r
def uptoBulkEntries {H : Type} : List (Lit × DataW H) → Nat
  | [] => 0
  | x :: r => uptoBulkEntry x + uptoBulkEntries r
def uptoBulkEntry {H : Type} : Lit × DataW H → Nat
  | (.string bytes, d) => bytes.length + uptoBulk d + 1
  | (_, d) => uptoBulk d + 1
 end
def uptoSmall : (H : Type) → List (DataW H) → Bool := fun _ ds => decide (uptoBulkAll ds ≤ 1048576)
def OpenSpec.upto (s : _root_.Go.ChangeSpec) : _root_.Go.OpenSpec := { _root_.Go.OpenSpec.ofChange s with cond := some uptoSmall }

/-- 'laws.FnSTTypes', WHERE WHAT IT READS IS OF BULK AT MOST 1048576: true; the input reads as it did. -/
def fnSTTypesUptoRow : OpenClaim := { program := "ytkidcgaogjlpaaagreat", sum := "280025f3aa52108c4b299bd3fd24a3e9b66c0c99caa8f211f788cd8ff040a055", func := "given.example/pub-clapboard/laws.FnSTTypes", spec := "fnSTTypes", inPlace := ["internal/abi.NoEscape", "internal/bytealg.MakeNoZero"], unfollowed := true, recurses := true, apart := false, narrowed := true }
def FnSTTypesUptoSaid : Prop := fnSTTypesUptoRow.holds Tryz.pinned (OpenSpec.upto fnSTTypesSpec)

/-- 'laws.FnSTEncodes', WHERE WHAT IT READS IS OF BULK AT MOST 1048576: true; the input reads as it did. -/
def fnSTEncodesUptoRow : OpenClaim := { program := "ytkidcgaogjlpaaagreat", sum := "280025f3aa52108c4b299bd3fd24a3e9b66c0c99caa8f211f788cd8ff040a055", func := "given.example/pub-clapboard/laws.FnSTEncodes", spec := "fnSTEncodes", unfollowed := true, recurses := true, apart := false, narrowed := true }
def FnSTEncodesUptoSaid : Prop := fnSTEncodesUptoRow.holds Tryz.pinned (OpenSpec.upto fnSTEncodesSpec)

/-- 'laws.FnSTCut', WHERE WHAT IT READS IS OF BULK AT MOST 1048576: true; the input reads as it did. -/
def fnSTCutUptoRow : OpenClaim := { program := "ytkidcgaogjlpaaagreat", sum := "280025f3aa52108c4b299bd3fd24a3e9b66c0c99caa8f211f788cd8ff040a055", func := "given.example/pub-clapboard/laws.FnSTCut", spec := "fnSTCut", unfollowed := true, recurses := true, apart := false, narrowed := true }
def FnSTCutUptoSaid : Prop := fnSTCutUptoRow.holds Tryz.pinned (OpenSpec.upto fnSTCutSpec)

/-- 'laws.FnSTDecodes', WHERE WHAT IT READS IS OF BULK AT MOST 1048576: true; the input reads as it did. -/
def fnSTDecodesUptoRow : OpenClaim := { program := "ytkidcgaogjlpaaagreat", sum := "280025f3aa52108c4b299bd3fd24a3e9b66c0c99caa8f211f788cd8ff040a055", func := "given.example/pub-clapboard/laws.FnSTDecodes", spec := "fnSTDecodes", unfollowed := true, recurses := true, apart := false, narrowed := true }
def FnSTDecodesUptoSaid : Prop := fnSTDecodesUptoRow.holds Tryz.pinned (OpenSpec.upto fnSTDecodesSpec)

/-- 'laws.FnSTDeepFew', WHERE WHAT IT READS IS OF BULK AT MOST 1048576: true; the input reads as it did. -/
def fnSTDeepFewUptoRow : OpenClaim := { program := "ytkidcgaogjlpaaagreat", sum := "280025f3aa52108c4b299bd3fd24a3e9b66c0c99caa8f211f788cd8ff040a055", func := "given.example/pub-clapboard/laws.FnSTDeepFew", spec := "fnSTDeepFew", unfollowed := true, recurses := true, apart := false, narrowed := true }
def FnSTDeepFewUptoSaid : Prop := fnSTDeepFewUptoRow.holds Tryz.pinned (OpenSpec.upto fnSTDeepFewSpec)

/-- 'laws.FnSTDeepParts', WHERE WHAT IT READS IS OF BULK AT MOST 1048576: true; the input reads as it did. -/
def fnSTDeepPartsUptoRow : OpenClaim := { program := "ytkidcgaogjlpaaagreat", sum := "280025f3aa52108c4b299bd3fd24a3e9b66c0c99caa8f211f788cd8ff040a055", func := "given.example/pub-clapboard/laws.FnSTDeepParts", spec := "fnSTDeepParts", unfollowed := true, recurses := true, apart := false, narrowed := true }
def FnSTDeepPartsUptoSaid : Prop := fnSTDeepPartsUptoRow.holds Tryz.pinned (OpenSpec.upto fnSTDeepPartsSpec)

/-- 'laws.FnSTRuns', WHERE WHAT IT READS IS OF BULK AT MOST 1048576: true; the input reads as it did. -/
def fnSTRunsUptoRow : OpenClaim := { program := "ytkidcgaogjlpaaagreat", sum := "280025f3aa52108c4b299bd3fd24a3e9b66c0c99caa8f211f788cd8ff040a055", func := "given.example/pub-clapboard/laws.FnSTRuns", spec := "fnSTRuns", unfollowed := true, recurses := true, apart := false, narrowed := true }
def FnSTRunsUptoSaid : Prop := fnSTRunsUptoRow.holds Tryz.pinned (OpenSpec.upto fnSTRunsSpec)

end Rows
end Go.Proofs.YtkidcgaogjlpaaaGreat
