/- A list of strings that came in. -/
import Derived.Test.YtgnkinhjfcbdbaaDoorOpenS
namespace Go.Proofs.YtgnkinhjfcbdbaaDoor
open Go.RowKit Go.Joins Go.ChangeShapes Go.WideShapes Go.Deep
set_option linter.unusedVariables false

section
variable {H : Type} {enc : TypeId × Value → H} {W : World} {base : Nat} {spare : Nat → Bool} {held : Bool}
set_option maxRecDepth 100000 in
theorem open_strL {b0 : Nat} {r : Reach} {v : Value} {d : DataW H} {p : List MemPlace} (hspare : ∀ b, spare b = true) (hv : Value.okWide Tryd.prog W r b0 22 v)
    (h : DataW.Trod enc Tryd.prog W base spare held 22 v d p) : ∃ ss, StrL W v ss ∧ ss.length ≤ maxLen ∧ ∀ s ∈ ss, s.size ≤ maxLen := by
  obtain ⟨a, len, cap, rfl⟩ := okWide_slice Tryd.underlying22 hv
  obtain ⟨fuel, hf⟩ := h
  exact trod_strL hspare hf
end
end Go.Proofs.YtgnkinhjfcbdbaaDoor
