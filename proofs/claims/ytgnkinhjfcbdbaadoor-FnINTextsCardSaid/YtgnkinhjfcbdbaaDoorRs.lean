/- proto.Reader: lengths, strings, raw bytes. -/
import Derived.Test.YtgnkinhjfcbdbaaDoorRv
import Derived.Defers
namespace Go.Proofs.YtgnkinhjfcbdbaaDoor
open Go.RowKit

/-- A string's bytes: its length, and itself. -/
def strBytes (s : List UInt8) : List UInt8 := uv s.length ++ s

theorem Short.split {rest a b : List UInt8} (h : Short rest (a ++ b)) : Short rest a ∨ ∃ r', rest = a ++ r' ∧ Short r' b := by
  obtain ⟨t, ht, he⟩ := h
  rcases List.append_eq_append_iff.1 he with ⟨c, h1, h2⟩ | ⟨c, h1, h2⟩
  · exact .inr ⟨c, h1, t, ht, h2⟩
  · by_cases hc : c = []
    · subst hc
      simp at h1 h2
      exact .inr ⟨[], by simp [h1], t, ht, by simp [h2]⟩
    · exact .inl ⟨c, hc, h1⟩

theorem Short.lt {rest a : List UInt8} (h : Short rest a) : rest.length < a.length := by
  obtain ⟨t, ht, rfl⟩ := h
  have := List.length_pos_iff.2 ht
  simp; omega

/-! ### Str: the Buffer is reset behind it -/
end Go.Proofs.YtgnkinhjfcbdbaaDoor
