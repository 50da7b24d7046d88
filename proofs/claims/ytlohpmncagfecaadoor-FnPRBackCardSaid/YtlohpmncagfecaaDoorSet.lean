/- proto.Setting: Encode, Decode; impl.PKSetting, spec.PKSetting. -/
import Derived.Test.YtlohpmncagfecaaDoorSq
import Derived.Deep.RegionHeld3
import Derived.Deep.QuietTactic
import Derived.BigQuiet
namespace Go.Proofs.YtlohpmncagfecaaDoor
open Go.RowKit

def bN (b : Bool) : Nat := if b then 1 else 0
def flagsOf (i c o : Bool) : Nat := bN i + 2 * bN c + 4 * bN o
def setBytes (k v : List UInt8) (i c o : Bool) : List UInt8 := strBytes k ++ (uv (flagsOf i c o) ++ strBytes v)
def setVal (k v : ByteArray) (i c o : Bool) : Value := .agg #[.string k, .string v, .bool i, .bool c, .bool o]

theorem setBytes_le (k v : List UInt8) (i c o : Bool) (hk : k.length ≤ 100) (hv : v.length ≤ 100) : (strBytes k).length ≤ 110 ∧ (uv (flagsOf i c o)).length ≤ 1 ∧ (strBytes v).length ≤ 110 ∧ (setBytes k v i c o).length ≤ 221 := by
  have h1 := uv_length_le 10 k.length (by omega) (by omega)
  have h2 := uv_length_le 10 v.length (by omega) (by omega)
  have h3 := uv_length_le 1 (flagsOf i c o) (by unfold flagsOf bN; split <;> split <;> split <;> omega) (by omega)
  unfold setBytes strBytes
  simp
  omega

theorem lenSize (s : ByteArray) : s.data.toList.length = s.size := by rw [Array.length_toList]; rfl

end Go.Proofs.YtlohpmncagfecaaDoor
