/- errors.Wrapf. -/
import Derived.Test.YtkidcgaogjlpaaaGreatRd
namespace Go.Proofs.YtkidcgaogjlpaaaGreat
open Go.RowKit
theorem wrapfErr (w : World) (T : TypeId) (x y : Value) (s : ByteArray) : Calls Tryz.prog 92 #[.iface T x, .string s, y] w fun e w' => (∃ a, e = .returned (.iface 221 (.pointer (some a)))) ∧ Below w.heap.size w w' := by
  go_enter Tryz.func92, Tryz.ntmps92
  go_wp2_with (go_at_call 89; refine (wrapErr _ _ _ _).mono ?_; rintro e w2 ⟨⟨a2, rfl⟩, hb2⟩)
  go_ret
  exact ⟨⟨_, rfl⟩, hb2⟩
end Go.Proofs.YtkidcgaogjlpaaaGreat
