/- impl.STEncode and impl.rowsOf over a column behind the interface. -/
import Derived.Test.YtemmhlibbihjmaaGreatTx
namespace Go.Proofs.YtemmhlibbihjmaaGreat
open Go.RowKit
set_option linter.unusedVariables false
set_option linter.unusedSimpArgs false

/-- impl.STKind.column makes this column. -/
def Makes (kv : Value) (t : TypeId) (v : World → Value) (C : World → Rep) : Prop :=
  ∀ w, Calls Tryz.prog 74 #[kv] w fun e w' => e = .returned (.iface t (v w)) ∧ Below w.heap.size w w' ∧ ∃ F, C w w' F [] ∧ ∀ k, F k → w.heap.size ≤ k

end Go.Proofs.YtemmhlibbihjmaaGreat
