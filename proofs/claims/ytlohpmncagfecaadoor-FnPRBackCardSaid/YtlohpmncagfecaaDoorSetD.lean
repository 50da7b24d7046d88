/- proto.Setting: Decode; impl.PKSettingGet. -/
import Derived.Test.YtlohpmncagfecaaDoorGot
import Derived.Test.YtlohpmncagfecaaDoorSet
namespace Go.Proofs.YtlohpmncagfecaaDoor
open Go.RowKit

theorem row_cells {w : World} {q : Nat} {cs : List Value} {T : TypeId} (h : w.heap[q]? = some (.cells cs.toArray T (0, 0))) : ∀ j, j < cs.length → (w.cell? ⟨q, j, none⟩).isSome = true ∧ w.frozen? ⟨q, j, none⟩ = false := fun j hj => by
  constructor
  · simp [World.cell?, h, hj]
  · simp [World.frozen?, h]

theorem row_set {w : World} {q : Nat} {cs : List Value} {T : TypeId} (h : w.heap[q]? = some (.cells cs.toArray T (0, 0))) (j : Nat) (v : Value) : (w.setCell ⟨q, j, none⟩ v).heap[q]? = some (.cells (cs.set j v).toArray T (0, 0)) := by
  simp [World.setCell, Array.getElem?_modify, h]

theorem decBad_of {w w1 w2 : World} {F F1 : Nat → Prop} {q : Nat} {a : Addr} (hu : Upd w w1 F F1) (hb : Below w1.heap.size w1 w2) :
    DecBad w F q (.returned (.iface 143 (.pointer (some a)))) w2 :=
  ⟨a, rfl, (hu.below hb).chg.mono fun _ _ h => .inl h⟩

theorem chg_below {w w0 w' : World} {q : Nat} (hb : Below w.heap.size w w0) (hc : Chg (· = q) w0 w') (hq : w.heap.size ≤ q) : Below w.heap.size w w' :=
  hb.trans (hc.below hb.size fun k hk => by omega)

end Go.Proofs.YtlohpmncagfecaaDoor
