/-
  No cell of these rows narrows 'for every input' (looked for: loops, veiled, ifaces, maps, wideKeys, modest, calm, conditions, laid).
  DERIVED. THE GIVEN ROWS OF THIS SEAT. 4 by the template 'for every input the law returns true; each argument reads behind the call as it read before'; 0 by the template 'total and deterministic' (their statements: YtifnjiimlpjljaaTotals.lean).
  GIVEN WITH THE SEED: the statements are not yours to turn. If you find one false, say at which input.
  Laid BY PROGRAM, IN A SANDBOX (cutbox-rows.mjs): the forced cells as the released guide's own fill.sh prints them over the translation 1e2531af7ecfc4ed… (all of the seat's roots in one cut). By AI agents, Wed Nov 11 2026. No macro, syntax, notation, axiom, sorry.
-/
import Derived.Test.YtifnjiimlpjljaaChecked
import GoSem.Claim
import GoSem.ClaimJoined
import GoSem.ClaimMapViews
import Derived.JoinedTies
import Derived.KernelRfl
namespace Go.Proofs.Ytifnjiimlpjljaa
/- THE CELL 'sum', in the pinned program and in every row, IS THE sha256 OF THE DUMP (.gsa) THAT YtifnjiimlpjljaaProg.lean LOADS. Nothing in Lean hashes anything: it is a label: what it is worth is what the hold of that sum in a sandbox is worth. -/
noncomputable def Try.pinned : Pinned := { name := "ytifnjiimlpjljaa", sum := "1e2531af7ecfc4edd384418aac963cab746cbf8407029172c172a569b4fc957e", checked := Try.checked }
namespace Rows
def none {H : Type} : Left H := { results := [], args := [] }

/-- 'laws.FnARReadStr': WHATEVER THE INPUT: true; the input reads as it did. -/
def fnARReadStrSpec : ChangeSpec := { name := "fnARReadStr", fn := fun _ => fun
  | [d1, d2] => { results := [.lit (.bool true)], args := [d1, d2] }
  | _ => none }
def fnARReadStrRow : OpenClaim := { program := "ytifnjiimlpjljaa", sum := "1e2531af7ecfc4edd384418aac963cab746cbf8407029172c172a569b4fc957e", func := "given.example/pub-clapboard/laws.FnARReadStr", spec := "fnARReadStr", unfollowed := true, recurses := true, apart := false }
def FnARReadStrSaid : Prop := fnARReadStrRow.holds Try.pinned (OpenSpec.ofChange fnARReadStrSpec)

/-- ITS FALSE NEIGHBOUR: 'it returns false'. Refute it at one input. -/
def fnARReadStrWrong : ChangeSpec := { name := "fnARReadStr", fn := fun _ => fun
  | [d1, d2] => { results := [.lit (.bool false)], args := [d1, d2] }
  | _ => none }
def FnARReadStrWrongFalsely : Prop := fnARReadStrRow.holds Try.pinned (OpenSpec.ofChange fnARReadStrWrong)

/-- 'laws.FnARReadNull': WHATEVER THE INPUT: true; the input reads as it did. -/
def fnARReadNullSpec : ChangeSpec := { name := "fnARReadNull", fn := fun _ => fun
  | [d1, d2] => { results := [.lit (.bool true)], args := [d1, d2] }
  | _ => none }
def fnARReadNullRow : OpenClaim := { program := "ytifnjiimlpjljaa", sum := "1e2531af7ecfc4edd384418aac963cab746cbf8407029172c172a569b4fc957e", func := "given.example/pub-clapboard/laws.FnARReadNull", spec := "fnARReadNull", unfollowed := true, recurses := true, apart := false }
def FnARReadNullSaid : Prop := fnARReadNullRow.holds Try.pinned (OpenSpec.ofChange fnARReadNullSpec)

/-- ITS FALSE NEIGHBOUR: 'it returns false'. Refute it at one input. -/
def fnARReadNullWrong : ChangeSpec := { name := "fnARReadNull", fn := fun _ => fun
  | [d1, d2] => { results := [.lit (.bool false)], args := [d1, d2] }
  | _ => none }
def FnARReadNullWrongFalsely : Prop := fnARReadNullRow.holds Try.pinned (OpenSpec.ofChange fnARReadNullWrong)

/-- 'laws.FnARReadMap': WHATEVER THE INPUT: true; the input reads as it did. -/
def fnARReadMapSpec : ChangeSpec := { name := "fnARReadMap", fn := fun _ => fun
  | [d1, d2] => { results := [.lit (.bool true)], args := [d1, d2] }
  | _ => none }
def fnARReadMapRow : OpenClaim := { program := "ytifnjiimlpjljaa", sum := "1e2531af7ecfc4edd384418aac963cab746cbf8407029172c172a569b4fc957e", func := "given.example/pub-clapboard/laws.FnARReadMap", spec := "fnARReadMap", unfollowed := true, recurses := true, named := ["encoding/binary.LittleEndian"], apart := false }
def FnARReadMapSaid : Prop := fnARReadMapRow.holds Try.pinned (OpenSpec.ofChange fnARReadMapSpec)

/-- ITS FALSE NEIGHBOUR: 'it returns false'. Refute it at one input. -/
def fnARReadMapWrong : ChangeSpec := { name := "fnARReadMap", fn := fun _ => fun
  | [d1, d2] => { results := [.lit (.bool false)], args := [d1, d2] }
  | _ => none }
def FnARReadMapWrongFalsely : Prop := fnARReadMapRow.holds Try.pinned (OpenSpec.ofChange fnARReadMapWrong)

/-- 'laws.FnARRows': WHATEVER THE INPUT: true; the input reads as it did. -/
def fnARRowsSpec : ChangeSpec := { name := "fnARRows", fn := fun _ => fun
  | [d] => { results := [.lit (.bool true)], args := [d] }
  | _ => none }
def fnARRowsRow : OpenClaim := { program := "ytifnjiimlpjljaa", sum := "1e2531af7ecfc4edd384418aac963cab746cbf8407029172c172a569b4fc957e", func := "given.example/pub-clapboard/laws.FnARRows", spec := "fnARRows", unfollowed := true, recurses := true, apart := false }
def FnARRowsSaid : Prop := fnARRowsRow.holds Try.pinned (OpenSpec.ofChange fnARRowsSpec)

/-- ITS FALSE NEIGHBOUR: 'it returns false'. Refute it at one input. -/
def fnARRowsWrong : ChangeSpec := { name := "fnARRows", fn := fun _ => fun
  | [d] => { results := [.lit (.bool false)], args := [d] }
  | _ => none }
def FnARRowsWrongFalsely : Prop := fnARRowsRow.holds Try.pinned (OpenSpec.ofChange fnARRowsWrong)

/- THE SECOND FORM. 'bulk': how many values and letters a reading holds, each counted each time it is reached (what is shared counts as often as it is met; a slice's spare places count too). A statement '..UptoSaid' is the law's where the arguments, and the package variables that the reading takes, are together of bulk at most 1048576: NARROWER than '..Said'. Prove '..Said' where nothing that the law and all that it calls make is longer than what came in: it says more and counts as full. Else prove '..UptoSaid'. A law counts once. -/
mutual
def uptoBulk {H : Type} : DataW H → Nat
  | .lit (.string bytes) => bytes.length + 1
  | .lit _ => 1
  | .nil => 1
  | .ptr d => uptoBulk d + 1
  | .slice elems spare => uptoBulkAll elems + uptoBulkAll spare + 1
  | .agg parts => uptoBulkAll parts + 1
  | .iface _ d => uptoBulk d + 1
  | .map entries => uptoBulkEntries entries + 1
  | .held _ => 1
def uptoBulkAll {H : Type} : List (DataW H) → Nat
  | [] => 0
  | d :: r => uptoBulk d + uptoBulkAll r
def uptoBulkEntries {H : Type} : List (Lit × DataW H) → Nat
  | [] => 0
  | x :: r => uptoBulkEntry x + uptoBulkEntries r
def uptoBulkEntry {H : Type} : Lit × DataW H → Nat
  | (.string bytes, d) => bytes.length + uptoBulk d + 1
  | (_, d) => uptoBulk d + 1
 end
def uptoSmall : (H : Type) → List (DataW H) → Bool := fun _ ds => decide (uptoBulkAll ds ≤ 1048576)
def OpenSpec.upto (s : _root_.Go.ChangeSpec) : _root_.Go.OpenSpec := { _root_.Go.OpenSpec.ofChange s with cond := some uptoSmall }

/-- 'laws.FnARReadStr', WHERE WHAT IT READS IS OF BULK AT MOST 1048576: true; the input reads as it did. -/
def fnARReadStrUptoRow : OpenClaim := { program := "ytifnjiimlpjljaa", sum := "1e2531af7ecfc4edd384418aac963cab746cbf8407029172c172a569b4fc957e", func := "given.example/pub-clapboard/laws.FnARReadStr", spec := "fnARReadStr", unfollowed := true, recurses := true, apart := false, narrowed := true }
def FnARReadStrUptoSaid : Prop := fnARReadStrUptoRow.holds Try.pinned (OpenSpec.upto fnARReadStrSpec)

/-- 'laws.FnARReadNull', WHERE WHAT IT READS IS OF BULK AT MOST 1048576: true; the input reads as it did. -/
def fnARReadNullUptoRow : OpenClaim := { program := "ytifnjiimlpjljaa", sum := "1e2531af7ecfc4edd384418aac963cab746cbf8407029172c172a569b4fc957e", func := "given.example/pub-clapboard/laws.FnARReadNull", spec := "fnARReadNull", unfollowed := true, recurses := true, apart := false, narrowed := true }
def FnARReadNullUptoSaid : Prop := fnARReadNullUptoRow.holds Try.pinned (OpenSpec.upto fnARReadNullSpec)

/-- 'laws.FnARReadMap', WHERE WHAT IT READS IS OF BULK AT MOST 1048576: true; the input reads as it did. -/
def fnARReadMapUptoRow : OpenClaim := { program := "ytifnjiimlpjljaa", sum := "1e2531af7ecfc4edd384418aac963cab746cbf8407029172c172a569b4fc957e", func := "given.example/pub-clapboard/laws.FnARReadMap", spec := "fnARReadMap", unfollowed := true, recurses := true, named := ["encoding/binary.LittleEndian"], apart := false, narrowed := true }
def FnARReadMapUptoSaid : Prop := fnARReadMapUptoRow.holds Try.pinned (OpenSpec.upto fnARReadMapSpec)

/-- 'laws.FnARRows', WHERE WHAT IT READS IS OF BULK AT MOST 1048576: true; the input reads as it did. -/
def fnARRowsUptoRow : OpenClaim := { program := "ytifnjiimlpjljaa", sum := "1e2531af7ecfc4edd384418aac963cab746cbf8407029172c172a569b4fc957e", func := "given.example/pub-clapboard/laws.FnARRows", spec := "fnARRows", unfollowed := true, recurses := true, apart := false, narrowed := true }
def FnARRowsUptoSaid : Prop := fnARRowsUptoRow.holds Try.pinned (OpenSpec.upto fnARRowsSpec)

end Rows
end Go.Proofs.Ytifnjiimlpjljaa
