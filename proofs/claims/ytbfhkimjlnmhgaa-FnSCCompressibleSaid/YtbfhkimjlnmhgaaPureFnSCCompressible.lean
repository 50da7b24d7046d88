/- FnSCCompressible: of a server's messages data (1), totals (7) and extremes (8) are those that can be compressed; for every code of a byte (0 to 255). -/
import Derived.Test.YtbfhkimjlnmhgaaPFnSCCompressiblex1
namespace Go.Proofs.Ytbfhkimjlnmhgaa.Pure
open Go.RowKit Go.Proofs.Ytbfhkimjlnmhgaa.PFnSCCompressible Go.Proofs.YtbfhkimjlnmhgaaW.PrintWords Go.Proofs.YtbfhkimjlnmhgaaW.PrintLast

theorem FnSCCompressible : laws_FnSCCompressible.Pure := by
  intro a h
  have hb : 0 ≤ a ∧ a ≤ 255 := by simp [Lit.wf, IntKind.min, IntKind.max, IntKind.signed, IntKind.bits] at h; omega
  have hw : (wrap64 a) % 256 = a := by unfold wrap64; omega
  have h1 : proto_ServerCode_Compressible.f (1 % 256) = some true := by decide
  unfold laws_FnSCCompressible.f impl_SCCompressible.f
  rw [hw, h1]
  simp only [Option.bind_some]
  unfold proto_ServerCode_Compressible.f
  by_cases e1 : a = 1
  · simp [e1]
  by_cases e7 : a = 7
  · simp [e7]
  by_cases e8 : a = 8
  · simp [e8]
  simp [e1, e7, e8]

end Go.Proofs.Ytbfhkimjlnmhgaa.Pure
