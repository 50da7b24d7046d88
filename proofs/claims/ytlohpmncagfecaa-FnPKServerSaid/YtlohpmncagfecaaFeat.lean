/- proto.Feature.In; a struct that is known to be zero. -/
import Derived.Test.YtlohpmncagfecaaLe
namespace Go.Proofs.Ytlohpmncagfecaa
open Go.RowKit

theorem featYes (w : World) (f v : Int) (h : f ≤ v) : Calls Try.prog 162 #[.int .i64 f, .int .i64 v] w fun e w' => e = .returned (.bool true) ∧ w' = w := by
  go_enter Try.func162, Try.ntmps162
  go_wp2_with (go_at_call 163; go_in)
  go_ret
  exact ⟨by simp, rfl⟩
theorem featNo (w : World) (f v : Int) (h : v < f) : Calls Try.prog 162 #[.int .i64 f, .int .i64 v] w fun e w' => e = .returned (.bool false) ∧ w' = w := by
  go_enter Try.func162, Try.ntmps162
  go_wp2_with (go_at_call 163; go_in)
  go_ret
  exact ⟨by simp; omega, rfl⟩

theorem Ready.rs0 {w : World} {F D : Nat → Prop} {r q : Nat} {T : TypeId} {n : Nat} {bs : List UInt8} (h : Ready w F D r q T n bs) {row : List Value} (hz : w.heap[q]? = some (.cells row.toArray T (0, 0))) : RS w F w F D r q T row bs := by
  obtain ⟨hr, -, hF, hD⟩ := h
  exact ⟨hr, hz, hF, hD, Chg.refl _ _, fun _ h => .inl h⟩
end Go.Proofs.Ytlohpmncagfecaa
