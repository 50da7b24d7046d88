/- FnDTOrder: a day more is 86,400 seconds more, for both kinds of dates, and both are the same where there are both; for every number of days (the last one of each kind aside, as the law itself says). -/
import Derived.Test.YtbfhkimjlnmhgaaPFnDTOrderx1
namespace Go.Proofs.Ytbfhkimjlnmhgaa.Pure
open Go.RowKit Go.Proofs.Ytbfhkimjlnmhgaa.PFnDTOrder Go.Proofs.YtbfhkimjlnmhgaaW.PrintWords Go.Proofs.YtbfhkimjlnmhgaaW.PrintLast

theorem FnDTOrder : laws_FnDTOrder.Pure := by
  intro a b ha hb
  have ha' : 0 ≤ a ∧ a ≤ 65535 := by simp [Lit.wf, IntKind.min, IntKind.max, IntKind.signed, IntKind.bits] at ha; omega
  have hb' : -2147483648 ≤ b ∧ b ≤ 2147483647 := by simp [Lit.wf, IntKind.min, IntKind.max, IntKind.signed, IntKind.bits] at hb; omega
  refine ⟨1, ?_⟩
  unfold laws_FnDTOrder.f
  by_cases e1 : a = 65535
  · rw [if_pos e1]; simp only [laws_FnDTOrder.j0]; rw [if_pos trivial]; decide +kernel
  rw [if_neg e1]
  simp only [laws_FnDTOrder.j0]
  by_cases e2 : b = 2147483647
  · rw [if_pos (by simp [e2])]; decide +kernel
  rw [if_neg (by simpa using e2)]
  have hu : IntKind.u16.wrap (a + 1) = a + 1 := by simp [IntKind.wrap, IntKind.signed, IntKind.bits]; omega
  have hs : wrap32 (b + 1) = b + 1 := by unfold wrap32; omega
  have ht : wrap32 a = a := by unfold wrap32; omega
  rw [hu, hs, ht]
  have k : ∀ x : Int, -2147483648 ≤ x → x ≤ 2147483647 → wrap64 (86400 * wrap64 x) = 86400 * x := by intro x h1 h2; unfold wrap64; omega
  unfold impl_DTUnix.f impl_DTUnix32.f proto_Date_Unix.f proto_Date32_Unix.f
  simp only [Option.bind_some]
  rw [k (a + 1) (by omega) (by omega), k a (by omega) (by omega), k (b + 1) (by omega) (by omega), k b (by omega) (by omega)]
  have d : ∀ x : Int, wrap64 (86400 * (x + 1) - 86400 * x) = 86400 := by intro x; unfold wrap64; omega
  rw [d, d, if_pos rfl, if_pos rfl]
  simp

end Go.Proofs.Ytbfhkimjlnmhgaa.Pure
