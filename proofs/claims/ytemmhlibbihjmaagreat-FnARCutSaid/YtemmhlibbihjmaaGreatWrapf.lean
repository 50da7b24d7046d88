/- errors.Wrapf. -/
import Derived.Test.YtemmhlibbihjmaaGreatRd
namespace Go.Proofs.YtemmhlibbihjmaaGreat
open Go.RowKit
theorem wrapfErr (w : World) (T : TypeId) (x y : Value) (s : ByteArray) : Calls Tryz.prog 93 #[.iface T x, .string s, y] w fun e w' => (∃ a, e = .returned (.iface 131 (.pointer (some a)))) ∧ Below w.heap.size w w' := by
  go_enter Tryz.func93, Tryz.ntmps93
  go_wp2_with (go_at_call 48; refine (wrapErr _ _ _ _).mono ?_; rintro e w2 ⟨⟨a2, rfl⟩, hb2⟩)
  go_ret
  exact ⟨⟨_, rfl⟩, hb2⟩
end Go.Proofs.YtemmhlibbihjmaaGreat
