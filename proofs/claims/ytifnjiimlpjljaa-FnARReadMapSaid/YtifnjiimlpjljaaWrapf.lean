/- errors.Wrapf. -/
import Derived.Test.YtifnjiimlpjljaaRd
namespace Go.Proofs.Ytifnjiimlpjljaa
open Go.RowKit
theorem wrapfErr (w : World) (T : TypeId) (x y : Value) (s : ByteArray) : Calls Try.prog 117 #[.iface T x, .string s, y] w fun e w' => (∃ a, e = .returned (.iface 147 (.pointer (some a)))) ∧ Below w.heap.size w w' := by
  go_enter Try.func117, Try.ntmps117
  go_wp2_with (go_at_call 69; refine (wrapErr _ _ _ _).mono ?_; rintro e w2 ⟨⟨a2, rfl⟩, hb2⟩)
  go_ret
  exact ⟨⟨_, rfl⟩, hb2⟩
end Go.Proofs.Ytifnjiimlpjljaa
