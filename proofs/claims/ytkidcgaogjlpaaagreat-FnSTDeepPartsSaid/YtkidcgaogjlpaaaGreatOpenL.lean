/- A list of byte strings that came in. -/
import Derived.Test.YtkidcgaogjlpaaaGreatOpenN
import Derived.Test.YtkidcgaogjlpaaaGreatTx
namespace Go.Proofs.YtkidcgaogjlpaaaGreat
open Go.RowKit Go.Joins Go.ChangeShapes Go.WideShapes Go.Deep
set_option linter.unnecessarySimpa false
set_option linter.unusedVariables false

set_option maxRecDepth 100000 in
theorem open_rows {H : Type} {enc : TypeId × Value → H} {W : World} {base b0 : Nat} {spare : Nat → Bool} {held : Bool} {r : Reach} {v : Value} {d : DataW H} {p : List MemPlace} (hspare : ∀ b, spare b = true) (hv : Value.okWide Tryz.prog W r b0 31 v)
    (h : DataW.Trod enc Tryz.prog W base spare held 31 v d p) : ∃ l, ListAt W v l ∧ l.length ≤ maxLen ∧ ∀ s ∈ l, s.length ≤ maxLen := by
  obtain ⟨a, len, cap, rfl⟩ := okWide_slice Tryz.underlying31 hv
  obtain ⟨fuel, hf⟩ := h
  rcases open_slice Tryz.underlying31 hf with ⟨hcs, _⟩ | ⟨x, l, c, m, n, D, Pl, hcs, _, hl, hm, hmm, _, hi⟩
  · simp only [Value.cells, List.cons.injEq, Value.slice.injEq, and_true] at hcs
    obtain ⟨rfl, rfl, rfl⟩ := hcs
    exact ⟨[], ⟨none, 0, [], rfl, Nat.zero_le _, ⟨rfl, fun i x s h => by simp at h⟩, fun h => absurd rfl h⟩, Nat.zero_le _, by simp⟩
  · simp only [Value.cells, List.cons.injEq, Value.slice.injEq, and_true] at hcs
    obtain ⟨rfl, rfl, rfl⟩ := hcs
    obtain ⟨hsp, hlt⟩ := slice_has Tryz.underlying31 hv
    obtain ⟨b, off, sp⟩ := x
    simp only at hsp hlt
    subst hsp
    rw [hspare, if_pos rfl] at hmm
    have hC : Tryz.prog.cellsOf 34 = 1 := by kernel_rfl
    have each : ∀ i, i < len → ∃ y : Value × List UInt8, W.cell? ⟨b, off + i, none⟩ = some y.1 ∧ BytesX W y.1 y.2 ∧ y.2.length ≤ maxLen := fun i hil => by
      obtain ⟨cs', hc, ht'⟩ := hi i (by omega)
      rw [hC, addr_add] at hc
      obtain ⟨_, hcl, hat⟩ := World.cells?_some hc
      obtain ⟨c0, rfl⟩ : ∃ c0, cs' = [c0] := list1 hcl
      have h1 := hat 0 (by omega)
      rw [addr_add] at h1
      obtain ⟨bs, hbs, -, hlen⟩ := trod_bytesX hspare ht'
      exact ⟨(c0, bs), by simpa using h1, hbs, hlen⟩
    obtain ⟨ys, hyl, hy⟩ := list_of len each
    subst hyl
    refine ⟨ys.map (·.2), ⟨some ⟨b, off, none⟩, cap, ys.map (·.1), by simp, by simpa using hl, ⟨by simp, fun i x s hx hs => ?_⟩, fun _ => ⟨b, off, rfl, fun j x hj => ?_⟩⟩, by simp; omega, fun s hs => ?_⟩
    · rw [List.getElem?_map] at hx hs
      obtain ⟨y, h1, rfl⟩ := Option.map_eq_some_iff.1 hx
      rw [h1] at hs
      obtain rfl : y.2 = s := by simpa using hs
      exact (hy i y h1).2.1
    · rw [List.getElem?_map] at hj
      obtain ⟨y, h1, rfl⟩ := Option.map_eq_some_iff.1 hj
      exact (hy j y h1).1
    · obtain ⟨y, h1, rfl⟩ := List.mem_map.1 hs
      obtain ⟨i, hi, rfl⟩ := List.getElem_of_mem h1
      exact (hy i _ (List.getElem?_eq_getElem hi)).2.2
end Go.Proofs.YtkidcgaogjlpaaaGreat
