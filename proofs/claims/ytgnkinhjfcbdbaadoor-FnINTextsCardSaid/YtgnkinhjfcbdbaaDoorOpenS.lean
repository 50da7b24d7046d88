/- Lists of strings, and lists of these, that came in. -/
import Derived.Test.YtgnkinhjfcbdbaaDoorOpenN
import Derived.Test.YtgnkinhjfcbdbaaDoorLst
namespace Go.Proofs.YtgnkinhjfcbdbaaDoor
open Go.RowKit Go.Joins Go.ChangeShapes Go.WideShapes Go.Deep
set_option linter.unnecessarySimpa false
set_option linter.unusedVariables false

section
variable {H : Type} {enc : TypeId × Value → H} {W : World} {base : Nat} {spare : Nat → Bool} {held : Bool}
set_option maxRecDepth 100000 in
theorem trod_strL (hspare : ∀ b, spare b = true) {n : Nat} {c : Value} {y : DataW H × List MemPlace} (h : DataW.trod enc Tryd.prog W base spare held n 22 [c] = some y) : ∃ ss, StrL W c ss ∧ ss.length ≤ maxLen ∧ ∀ s ∈ ss, s.size ≤ maxLen := by
  rcases open_slice Tryd.underlying22 h with ⟨hcs, _⟩ | ⟨x, len, cap, m, n', D, Pl, hcs, _, hl, hm, hmm, _, hi⟩
  · obtain rfl : c = .slice none 0 0 := by simpa using hcs
    exact ⟨[], ⟨none, 0, rfl, Nat.zero_le _, fun h => absurd rfl h⟩, Nat.zero_le _, by simp⟩
  · obtain rfl : c = .slice (some x) len cap := by simpa using hcs
    rw [hspare, if_pos rfl] at hmm
    have hC : Tryd.prog.cellsOf 9 = 1 := by kernel_rfl
    have each : ∀ i, i < len → ∃ s : ByteArray, W.cell? (x.add i) = some (.string s) ∧ s.size ≤ maxLen := fun i hil => by
      obtain ⟨cs', hc, ht'⟩ := hi i (by omega)
      rw [hC, Nat.mul_one] at hc
      obtain ⟨_, hcl, hat⟩ := World.cells?_some hc
      obtain ⟨s, rfl, -, hs⟩ := DataW.trod_string Tryd.underlying9 ht'
      have h1 := hat 0 (by simp)
      refine ⟨s, ?_, hs⟩
      have e : (x.add i).add 0 = x.add i := by unfold Addr.add; split <;> simp_all
      rw [e] at h1
      simpa using h1
    obtain ⟨ss, hsl, hs⟩ := list_of len each
    subst hsl
    refine ⟨ss, ⟨some x, cap, rfl, hl, fun h0 => ?_⟩, by omega, fun s hss => ?_⟩
    · have h0' : 0 < ss.length := by
        rcases Nat.eq_zero_or_pos ss.length with h | h
        · exact absurd (by rw [List.length_eq_zero_iff.1 h]; rfl) h0
        · exact h
      obtain ⟨b, off, sp⟩ := x
      have h1 := (hs 0 _ (List.getElem?_eq_getElem h0')).1
      have hsp : sp = none := by simpa [Addr.add] using World.cell?_spot h1
      subst hsp
      refine ⟨b, off, rfl, fun j v hj => ?_⟩
      rw [List.getElem?_map] at hj
      obtain ⟨s, h2, rfl⟩ := Option.map_eq_some_iff.1 hj
      have := (hs j s h2).1
      rw [addr_add] at this
      exact this
    · obtain ⟨i, hi2, rfl⟩ := List.getElem_of_mem hss
      exact (hs i _ (List.getElem?_eq_getElem hi2)).2

end
end Go.Proofs.YtgnkinhjfcbdbaaDoor
