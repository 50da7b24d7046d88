/-
  No cell of these rows narrows 'for every input' (looked for: loops, veiled, ifaces, maps, wideKeys, modest, calm, conditions, laid).
  DERIVED. THE GIVEN ROWS OF THIS SEAT. 7 by the template 'for every input the law returns true; each argument reads behind the call as it read before'; 0 by the template 'total and deterministic' (their statements: YtlohpmncagfecaaTotals.lean).
  GIVEN WITH THE SEED: the statements are not yours to turn. If you find one false, say at which input.
  Laid BY PROGRAM, IN A SANDBOX (cutbox-rows.mjs): the forced cells as the released guide's own fill.sh prints them over the translation df2fc2bfe958fca2… (all of the seat's roots in one cut). By AI agents, Wed Nov 11 2026. No macro, syntax, notation, axiom, sorry.
-/
import Derived.Test.YtlohpmncagfecaaChecked
import GoSem.Claim
import GoSem.ClaimJoined
import GoSem.ClaimMapViews
import Derived.JoinedTies
import Derived.KernelRfl
namespace Go.Proofs.Ytlohpmncagfecaa
/- THE CELL 'sum', in the pinned program and in every row, IS THE sha256 OF THE DUMP (.gsa) THAT YtlohpmncagfecaaProg.lean LOADS. Nothing in Lean hashes anything: it is a label: what it is worth is what the hold of that sum in a sandbox is worth. -/
noncomputable def Try.pinned : Pinned := { name := "ytlohpmncagfecaa", sum := "df2fc2bfe958fca2a0ad7052fae89fa32ba6a0df5ab5f02d27497747c5afb8cc", checked := Try.checked }
namespace Rows
def none {H : Type} : Left H := { results := [], args := [] }

/-- 'laws.FnPKSetting': WHATEVER THE INPUT: true; the input reads as it did. -/
def fnPKSettingSpec : ChangeSpec := { name := "fnPKSetting", fn := fun _ => fun
  | [d1, d2, d3] => { results := [.lit (.bool true)], args := [d1, d2, d3] }
  | _ => none }
def fnPKSettingRow : OpenClaim := { program := "ytlohpmncagfecaa", sum := "df2fc2bfe958fca2a0ad7052fae89fa32ba6a0df5ab5f02d27497747c5afb8cc", func := "given.example/pub-clapboard/laws.FnPKSetting", spec := "fnPKSetting", unfollowed := true, recurses := true, apart := false }
def FnPKSettingSaid : Prop := fnPKSettingRow.holds Try.pinned (OpenSpec.ofChange fnPKSettingSpec)

/-- ITS FALSE NEIGHBOUR: 'it returns false'. Refute it at one input. -/
def fnPKSettingWrong : ChangeSpec := { name := "fnPKSetting", fn := fun _ => fun
  | [d1, d2, d3] => { results := [.lit (.bool false)], args := [d1, d2, d3] }
  | _ => none }
def FnPKSettingWrongFalsely : Prop := fnPKSettingRow.holds Try.pinned (OpenSpec.ofChange fnPKSettingWrong)

/-- 'laws.FnPRJoins': WHATEVER THE INPUT: true; the input reads as it did. -/
def fnPRJoinsSpec : ChangeSpec := { name := "fnPRJoins", fn := fun _ => fun
  | [d1, d2] => { results := [.lit (.bool true)], args := [d1, d2] }
  | _ => none }
def fnPRJoinsRow : OpenClaim := { program := "ytlohpmncagfecaa", sum := "df2fc2bfe958fca2a0ad7052fae89fa32ba6a0df5ab5f02d27497747c5afb8cc", func := "given.example/pub-clapboard/laws.FnPRJoins", spec := "fnPRJoins", inPlace := ["math.Float32frombits", "math.Float32bits", "math.Float64frombits", "math.Float64bits"], unfollowed := true, recurses := true, named := ["encoding/binary.LittleEndian"], apart := false }
def FnPRJoinsSaid : Prop := fnPRJoinsRow.holds Try.pinned (OpenSpec.ofChange fnPRJoinsSpec)

/-- ITS FALSE NEIGHBOUR: 'it returns false'. Refute it at one input. -/
def fnPRJoinsWrong : ChangeSpec := { name := "fnPRJoins", fn := fun _ => fun
  | [d1, d2] => { results := [.lit (.bool false)], args := [d1, d2] }
  | _ => none }
def FnPRJoinsWrongFalsely : Prop := fnPRJoinsRow.holds Try.pinned (OpenSpec.ofChange fnPRJoinsWrong)

/-- 'laws.FnPRStrings': WHATEVER THE INPUT: true; the input reads as it did. -/
def fnPRStringsSpec : ChangeSpec := { name := "fnPRStrings", fn := fun _ => fun
  | [d1, d2] => { results := [.lit (.bool true)], args := [d1, d2] }
  | _ => none }
def fnPRStringsRow : OpenClaim := { program := "ytlohpmncagfecaa", sum := "df2fc2bfe958fca2a0ad7052fae89fa32ba6a0df5ab5f02d27497747c5afb8cc", func := "given.example/pub-clapboard/laws.FnPRStrings", spec := "fnPRStrings", inPlace := ["math.Float32frombits", "math.Float32bits", "math.Float64frombits", "math.Float64bits"], unfollowed := true, recurses := true, named := ["encoding/binary.LittleEndian"], apart := false }
def FnPRStringsSaid : Prop := fnPRStringsRow.holds Try.pinned (OpenSpec.ofChange fnPRStringsSpec)

/-- ITS FALSE NEIGHBOUR: 'it returns false'. Refute it at one input. -/
def fnPRStringsWrong : ChangeSpec := { name := "fnPRStrings", fn := fun _ => fun
  | [d1, d2] => { results := [.lit (.bool false)], args := [d1, d2] }
  | _ => none }
def FnPRStringsWrongFalsely : Prop := fnPRStringsRow.holds Try.pinned (OpenSpec.ofChange fnPRStringsWrong)

/-- 'laws.FnPKProfile': WHATEVER THE INPUT: true; the input reads as it did. -/
def fnPKProfileSpec : ChangeSpec := { name := "fnPKProfile", fn := fun _ => fun
  | [d1, d2, d3] => { results := [.lit (.bool true)], args := [d1, d2, d3] }
  | _ => none }
def fnPKProfileRow : OpenClaim := { program := "ytlohpmncagfecaa", sum := "df2fc2bfe958fca2a0ad7052fae89fa32ba6a0df5ab5f02d27497747c5afb8cc", func := "given.example/pub-clapboard/laws.FnPKProfile", spec := "fnPKProfile", unfollowed := true, recurses := true, apart := false }
def FnPKProfileSaid : Prop := fnPKProfileRow.holds Try.pinned (OpenSpec.ofChange fnPKProfileSpec)

/-- ITS FALSE NEIGHBOUR: 'it returns false'. Refute it at one input. -/
def fnPKProfileWrong : ChangeSpec := { name := "fnPKProfile", fn := fun _ => fun
  | [d1, d2, d3] => { results := [.lit (.bool false)], args := [d1, d2, d3] }
  | _ => none }
def FnPKProfileWrongFalsely : Prop := fnPKProfileRow.holds Try.pinned (OpenSpec.ofChange fnPKProfileWrong)

/-- 'laws.FnPKFault': WHATEVER THE INPUT: true; the input reads as it did. -/
def fnPKFaultSpec : ChangeSpec := { name := "fnPKFault", fn := fun _ => fun
  | [d1, d2, d3] => { results := [.lit (.bool true)], args := [d1, d2, d3] }
  | _ => none }
def fnPKFaultRow : OpenClaim := { program := "ytlohpmncagfecaa", sum := "df2fc2bfe958fca2a0ad7052fae89fa32ba6a0df5ab5f02d27497747c5afb8cc", func := "given.example/pub-clapboard/laws.FnPKFault", spec := "fnPKFault", unfollowed := true, recurses := true, apart := false }
def FnPKFaultSaid : Prop := fnPKFaultRow.holds Try.pinned (OpenSpec.ofChange fnPKFaultSpec)

/-- ITS FALSE NEIGHBOUR: 'it returns false'. Refute it at one input. -/
def fnPKFaultWrong : ChangeSpec := { name := "fnPKFault", fn := fun _ => fun
  | [d1, d2, d3] => { results := [.lit (.bool false)], args := [d1, d2, d3] }
  | _ => none }
def FnPKFaultWrongFalsely : Prop := fnPKFaultRow.holds Try.pinned (OpenSpec.ofChange fnPKFaultWrong)

/-- 'laws.FnPKServer': WHATEVER THE INPUT: true; the input reads as it did. -/
def fnPKServerSpec : ChangeSpec := { name := "fnPKServer", fn := fun _ => fun
  | [d1, d2, d3, d4] => { results := [.lit (.bool true)], args := [d1, d2, d3, d4] }
  | _ => none }
def fnPKServerRow : OpenClaim := { program := "ytlohpmncagfecaa", sum := "df2fc2bfe958fca2a0ad7052fae89fa32ba6a0df5ab5f02d27497747c5afb8cc", func := "given.example/pub-clapboard/laws.FnPKServer", spec := "fnPKServer", unfollowed := true, recurses := true, apart := false }
def FnPKServerSaid : Prop := fnPKServerRow.holds Try.pinned (OpenSpec.ofChange fnPKServerSpec)

/-- ITS FALSE NEIGHBOUR: 'it returns false'. Refute it at one input. -/
def fnPKServerWrong : ChangeSpec := { name := "fnPKServer", fn := fun _ => fun
  | [d1, d2, d3, d4] => { results := [.lit (.bool false)], args := [d1, d2, d3, d4] }
  | _ => none }
def FnPKServerWrongFalsely : Prop := fnPKServerRow.holds Try.pinned (OpenSpec.ofChange fnPKServerWrong)

/-- 'laws.FnENCodes': WHATEVER THE INPUT: true; the input reads as it did. -/
def fnENCodesSpec : ChangeSpec := { name := "fnENCodes", fn := fun _ => fun
  | [d1, d2] => { results := [.lit (.bool true)], args := [d1, d2] }
  | _ => none }
def fnENCodesRow : OpenClaim := { program := "ytlohpmncagfecaa", sum := "df2fc2bfe958fca2a0ad7052fae89fa32ba6a0df5ab5f02d27497747c5afb8cc", func := "given.example/pub-clapboard/laws.FnENCodes", spec := "fnENCodes", unfollowed := true, recurses := true, apart := false }
def FnENCodesSaid : Prop := fnENCodesRow.holds Try.pinned (OpenSpec.ofChange fnENCodesSpec)

/-- ITS FALSE NEIGHBOUR: 'it returns false'. Refute it at one input. -/
def fnENCodesWrong : ChangeSpec := { name := "fnENCodes", fn := fun _ => fun
  | [d1, d2] => { results := [.lit (.bool false)], args := [d1, d2] }
  | _ => none }
def FnENCodesWrongFalsely : Prop := fnENCodesRow.holds Try.pinned (OpenSpec.ofChange fnENCodesWrong)

/- THE SECOND FORM. 'bulk': how many values and letters a reading holds, each counted each time it is reached (what is shared counts as often as it is met; a slice's spare places count too). A statement '..UptoSaid' is the law's where the arguments, and the package variables that the reading takes, are together of bulk at most 1048576: NARROWER than '..Said'. Prove '..Said' where nothing that the law and all that it calls make is longer than what came in: it says more and counts as full. Else prove '..UptoSaid'. A law counts once. -/
mutual
def uptoBulk {H : Type} : DataW H → Nat
  | .lit (.string bytes) => bytes.length + 1
  | .lit _ => 1
  | .nil => 1
  | .ptr d => uptoBulk d + 1
  | .slice elems spare => uptoBulkAll elems + uptoBulkAll spare + 1
  | .agg parts => uptoBulkAll parts + 1
  | .iface _ d => uptoBulk d + 1
  | .map entries => uptoBulkEntries entries + 1
  | .held _ => 1
def uptoBulkAll {H : Type} : List (DataW H) → Nat
  | [] => 0
  | d :: r => uptoBulk d + uptoBulkAll r
def uptoBulkEntries {H : Type} : List (Lit × DataW H) → Nat
  | [] => 0
  | x :: r => uptoBulkEntry x + uptoBulkEntries r
def uptoBulkEntry {H : Type} : Lit × DataW H → Nat
  | (.string bytes, d) => bytes.length + uptoBulk d + 1
  | (_, d) => uptoBulk d + 1
 end
def uptoSmall : (H : Type) → List (DataW H) → Bool := fun _ ds => decide (uptoBulkAll ds ≤ 1048576)
def OpenSpec.upto (s : _root_.Go.ChangeSpec) : _root_.Go.OpenSpec := { _root_.Go.OpenSpec.ofChange s with cond := some uptoSmall }

/-- 'laws.FnPKSetting', WHERE WHAT IT READS IS OF BULK AT MOST 1048576: true; the input reads as it did. -/
def fnPKSettingUptoRow : OpenClaim := { program := "ytlohpmncagfecaa", sum := "df2fc2bfe958fca2a0ad7052fae89fa32ba6a0df5ab5f02d27497747c5afb8cc", func := "given.example/pub-clapboard/laws.FnPKSetting", spec := "fnPKSetting", unfollowed := true, recurses := true, apart := false, narrowed := true }
def FnPKSettingUptoSaid : Prop := fnPKSettingUptoRow.holds Try.pinned (OpenSpec.upto fnPKSettingSpec)

/-- 'laws.FnPRJoins', WHERE WHAT IT READS IS OF BULK AT MOST 1048576: true; the input reads as it did. -/
def fnPRJoinsUptoRow : OpenClaim := { program := "ytlohpmncagfecaa", sum := "df2fc2bfe958fca2a0ad7052fae89fa32ba6a0df5ab5f02d27497747c5afb8cc", func := "given.example/pub-clapboard/laws.FnPRJoins", spec := "fnPRJoins", inPlace := ["math.Float32frombits", "math.Float32bits", "math.Float64frombits", "math.Float64bits"], unfollowed := true, recurses := true, named := ["encoding/binary.LittleEndian"], apart := false, narrowed := true }
def FnPRJoinsUptoSaid : Prop := fnPRJoinsUptoRow.holds Try.pinned (OpenSpec.upto fnPRJoinsSpec)

/-- 'laws.FnPRStrings', WHERE WHAT IT READS IS OF BULK AT MOST 1048576: true; the input reads as it did. -/
def fnPRStringsUptoRow : OpenClaim := { program := "ytlohpmncagfecaa", sum := "df2fc2bfe958fca2a0ad7052fae89fa32ba6a0df5ab5f02d27497747c5afb8cc", func := "given.example/pub-clapboard/laws.FnPRStrings", spec := "fnPRStrings", inPlace := ["math.Float32frombits", "math.Float32bits", "math.Float64frombits", "math.Float64bits"], unfollowed := true, recurses := true, named := ["encoding/binary.LittleEndian"], apart := false, narrowed := true }
def FnPRStringsUptoSaid : Prop := fnPRStringsUptoRow.holds Try.pinned (OpenSpec.upto fnPRStringsSpec)

/-- 'laws.FnPKProfile', WHERE WHAT IT READS IS OF BULK AT MOST 1048576: true; the input reads as it did. -/
def fnPKProfileUptoRow : OpenClaim := { program := "ytlohpmncagfecaa", sum := "df2fc2bfe958fca2a0ad7052fae89fa32ba6a0df5ab5f02d27497747c5afb8cc", func := "given.example/pub-clapboard/laws.FnPKProfile", spec := "fnPKProfile", unfollowed := true, recurses := true, apart := false, narrowed := true }
def FnPKProfileUptoSaid : Prop := fnPKProfileUptoRow.holds Try.pinned (OpenSpec.upto fnPKProfileSpec)

/-- 'laws.FnPKFault', WHERE WHAT IT READS IS OF BULK AT MOST 1048576: true; the input reads as it did. -/
def fnPKFaultUptoRow : OpenClaim := { program := "ytlohpmncagfecaa", sum := "df2fc2bfe958fca2a0ad7052fae89fa32ba6a0df5ab5f02d27497747c5afb8cc", func := "given.example/pub-clapboard/laws.FnPKFault", spec := "fnPKFault", unfollowed := true, recurses := true, apart := false, narrowed := true }
def FnPKFaultUptoSaid : Prop := fnPKFaultUptoRow.holds Try.pinned (OpenSpec.upto fnPKFaultSpec)

/-- 'laws.FnPKServer', WHERE WHAT IT READS IS OF BULK AT MOST 1048576: true; the input reads as it did. -/
def fnPKServerUptoRow : OpenClaim := { program := "ytlohpmncagfecaa", sum := "df2fc2bfe958fca2a0ad7052fae89fa32ba6a0df5ab5f02d27497747c5afb8cc", func := "given.example/pub-clapboard/laws.FnPKServer", spec := "fnPKServer", unfollowed := true, recurses := true, apart := false, narrowed := true }
def FnPKServerUptoSaid : Prop := fnPKServerUptoRow.holds Try.pinned (OpenSpec.upto fnPKServerSpec)

/-- 'laws.FnENCodes', WHERE WHAT IT READS IS OF BULK AT MOST 1048576: true; the input reads as it did. -/
def fnENCodesUptoRow : OpenClaim := { program := "ytlohpmncagfecaa", sum := "df2fc2bfe958fca2a0ad7052fae89fa32ba6a0df5ab5f02d27497747c5afb8cc", func := "given.example/pub-clapboard/laws.FnENCodes", spec := "fnENCodes", unfollowed := true, recurses := true, apart := false, narrowed := true }
def FnENCodesUptoSaid : Prop := fnENCodesUptoRow.holds Try.pinned (OpenSpec.upto fnENCodesSpec)

end Rows
end Go.Proofs.Ytlohpmncagfecaa
